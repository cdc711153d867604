import PyProof.Rows.All
import Wide.All
import OpenK.AllK
import Wide.FinOn
import PySem.Challenge.RW_nb0382_01
set_option Elab.async false
section
open PySem PySem.W PyProof.Rows
set_option maxRecDepth 100000
set_option maxHeartbeats 8000000
namespace Mine
open_top hd for PySem.Challenge.rw_nb0382_01
end Mine
end
section
namespace Mine
open PySem PySem.Sre

theorem runFor_add (a : Nat) : ∀ (b : Nat) (m : M), M.runFor (a + b) m = M.runFor b (M.runFor a m) := by
  induction a with
  | zero => intro b m; rw [Nat.zero_add]; rfl
  | succ a ih =>
    intro b m
    rw [Nat.succ_add]
    show (if m.outcome.isSome then m else M.runFor (a + b) m.step) = M.runFor b (if m.outcome.isSome then m else M.runFor a m.step)
    by_cases h : m.outcome.isSome = true
    · rw [if_pos h, if_pos h]
      cases b with
      | zero => rfl
      | succ b => show m = (if m.outcome.isSome then m else _); rw [if_pos h]
    · rw [if_neg h, if_neg h, ih]

theorem runFor_stop {m : M} (h : m.outcome.isSome = true) : ∀ b, M.runFor b m = m
  | 0 => rfl
  | b + 1 => by show (if m.outcome.isSome then m else _) = m; rw [if_pos h]

/-- where a machine has come to its end, and how -/
def Over (r : Option (Nat × Nat)) (m : M) : Prop :=
  match r with
  | some (a, b) => m.outcome = some .matched ∧ m.start = a ∧ m.handed = b
  | none => m.outcome = some .failed

theorem Over.some {r : Option (Nat × Nat)} {m : M} (h : Over r m) : m.outcome.isSome = true := by
  cases r with
  | none => unfold Over at h; rw [h]; rfl
  | some p => obtain ⟨a, b⟩ := p; unfold Over at h; rw [h.1]; rfl

def EndsIn (n : Nat) (m : M) (r : Option (Nat × Nat)) : Prop := Over r (M.runFor n m)

theorem EndsIn.step {n : Nat} {m : M} {r : Option (Nat × Nat)} (h0 : m.outcome = none) (h : EndsIn n m.step r) : EndsIn (n + 1) m r := by
  show Over r (if m.outcome.isSome then m else M.runFor n m.step)
  rw [if_neg (by rw [h0]; decide)]
  exact h

theorem EndsIn.mono {n n' : Nat} {m : M} {r : Option (Nat × Nat)} (h : EndsIn n m r) (hn : n ≤ n') : EndsIn n' m r := by
  obtain ⟨d, rfl⟩ := Nat.le.dest hn
  show Over r (M.runFor (n + d) m)
  rw [runFor_add, runFor_stop (Over.some h)]
  exact h

theorem EndsIn.to {n : Nat} {m m' : M} {r : Option (Nat × Nat)} (h0 : m.outcome = none) (e : m.step = m') (h : EndsIn n m' r) : EndsIn (n + 1) m r :=
  .step h0 (e ▸ h)

/-! the first pattern: a dot at a row's begin -/
def c1 : Array Nat := #[14, 4, 0, 1, 1, 6, 1, 16, 46, 1]

def g1 (tx : Array Nat) (s pc pos hnd : Nat) (f : Bool) (fr : List Sre.Frame) (wt : Nat) (ans : Option Bool) (sn : Seen) (out : Option Sre.Outcome) : M :=
  { code := c1, text := tx, lim := tx.size, start := s, lastStart := tx.size, wholeText := false, mustAdvance := false, pc := pc, pos := pos, handed := hnd, outermost := f,
    marks := #[], lastmark := -1, lastindex := -1, loops := #[], inner := none, frames := fr, weight := wt, answer := ans, seen := sn, outcome := out }
def fS (s : Nat) (pc : Nat) (f : Bool) : Sre.Frame := { wait := .nextStart, pc := pc, pos := s, outermost := f }
def st1 (tx : Array Nat) (s : Nat) (f : Bool) (sn : Seen) : M := g1 tx s 5 s s f [fS s 5 f] 1 none sn none

def bol (tx : Array Nat) (s : Nat) : Bool := s == 0 || tx.getD (s - 1) 0 == 10
def hit1 (tx : Array Nat) (s : Nat) : Bool := bol tx s && (decide (s < tx.size) && tx.getD s 0 == 46)

theorem at1_yes {tx : Array Nat} {s : Nat} {f : Bool} {sn : Seen} (h : bol tx s = true) : (st1 tx s f sn).step = g1 tx s 7 s s f [fS s 5 f] 1 none ((sn.add 6).add 44) none := by
  have e : (st1 tx s f sn).step = (if bol tx s = true then g1 tx s 7 s s f [fS s 5 f] 1 none ((sn.add 6).add 44) none else g1 tx s 5 s s f [fS s 5 f] 1 (some false) ((sn.add 6).add 44) none) := rfl
  rw [e, if_pos h]
theorem at1_no {tx : Array Nat} {s : Nat} {f : Bool} {sn : Seen} (h : bol tx s = false) : (st1 tx s f sn).step = g1 tx s 5 s s f [fS s 5 f] 1 (some false) ((sn.add 6).add 44) none := by
  have e : (st1 tx s f sn).step = (if bol tx s = true then g1 tx s 7 s s f [fS s 5 f] 1 none ((sn.add 6).add 44) none else g1 tx s 5 s s f [fS s 5 f] 1 (some false) ((sn.add 6).add 44) none) := rfl
  rw [e, if_neg (by rw [h]; decide)]

theorem lit1 {tx : Array Nat} {s : Nat} {f : Bool} {sn : Seen} :
    (g1 tx s 7 s s f [fS s 5 f] 1 none sn none).step = (if s ≥ tx.size then g1 tx s 7 s s f [fS s 5 f] 1 (some false) (sn.add 16) none else
      match (Except.ok ((tx.getD s 0 == 46), sn.add 16) : Except String (Bool × Seen)) with
      | .error why => M.stick (g1 tx s 7 s s f [fS s 5 f] 1 none (sn.add 16) none) why
      | .ok (false, seen) => g1 tx s 7 s s f [fS s 5 f] 1 (some false) seen none
      | .ok (true, seen) => g1 tx s 9 (s + 1) s f [fS s 5 f] 1 none seen none) := rfl
theorem lit1_yes {tx : Array Nat} {s : Nat} {f : Bool} {sn : Seen} (h : s < tx.size) (hd : (tx.getD s 0 == 46) = true) :
    (g1 tx s 7 s s f [fS s 5 f] 1 none sn none).step = g1 tx s 9 (s + 1) s f [fS s 5 f] 1 none (sn.add 16) none := by
  rw [lit1, if_neg (Nat.not_le.mpr h), hd]
theorem lit1_no {tx : Array Nat} {s : Nat} {f : Bool} {sn : Seen} (h : (decide (s < tx.size) && tx.getD s 0 == 46) = false) :
    (g1 tx s 7 s s f [fS s 5 f] 1 none sn none).step = g1 tx s 7 s s f [fS s 5 f] 1 (some false) (sn.add 16) none := by
  rw [lit1]
  by_cases hs : s < tx.size
  · rw [if_neg (Nat.not_le.mpr hs)]
    have hd : (tx.getD s 0 == 46) = false := by simpa [hs] using h
    rw [hd]
  · rw [if_pos (Nat.not_lt.mp hs)]

theorem suc1 {tx : Array Nat} {s : Nat} {f : Bool} {sn : Seen} :
    (g1 tx s 9 (s + 1) s f [fS s 5 f] 1 none sn none).step = g1 tx s 9 (s + 1) (s + 1) f [fS s 5 f] 1 (some true) (sn.add 1) none := by cases f <;> rfl
theorem res1 {tx : Array Nat} {s : Nat} {f : Bool} {sn : Seen} :
    (g1 tx s 9 (s + 1) (s + 1) f [fS s 5 f] 1 (some true) sn none).step = g1 tx s 5 s (s + 1) f [] 0 (some true) sn none := rfl
theorem end1 {tx : Array Nat} {s : Nat} {f : Bool} {sn : Seen} :
    (g1 tx s 5 s (s + 1) f [] 0 (some true) sn none).step = g1 tx s 5 s (s + 1) f [] 0 (some true) sn (some .matched) := rfl
theorem back1 {tx : Array Nat} {s pc : Nat} {f : Bool} {sn : Seen} (h : s < tx.size) :
    (g1 tx s pc s s f [fS s 5 f] 1 (some false) sn none).step = st1 tx (s + 1) false sn := by
  have e : (g1 tx s pc s s f [fS s 5 f] 1 (some false) sn none).step = (if s < tx.size then st1 tx (s + 1) false sn else g1 tx s 5 s s f [] 0 (some false) sn none) := rfl
  rw [e, if_pos h]
theorem stop1 {tx : Array Nat} {s pc : Nat} {f : Bool} {sn : Seen} (h : ¬ s < tx.size) :
    (g1 tx s pc s s f [fS s 5 f] 1 (some false) sn none).step = g1 tx s 5 s s f [] 0 (some false) sn none := by
  have e : (g1 tx s pc s s f [fS s 5 f] 1 (some false) sn none).step = (if s < tx.size then st1 tx (s + 1) false sn else g1 tx s 5 s s f [] 0 (some false) sn none) := rfl
  rw [e, if_neg h]
theorem fail1 {tx : Array Nat} {s : Nat} {f : Bool} {sn : Seen} : (g1 tx s 5 s s f [] 0 (some false) sn none).step = g1 tx s 5 s s f [] 0 (some false) sn (some .failed) := rfl

/-- the first start from s on that the first pattern takes -/
def find1 (tx : Array Nat) : Nat → Nat → Option (Nat × Nat)
  | 0, _ => none
  | n + 1, s => if hit1 tx s then some (s, s + 1) else find1 tx n (s + 1)

theorem hit1_ends {tx : Array Nat} {s : Nat} {f : Bool} {sn : Seen} (h : hit1 tx s = true) : EndsIn 5 (st1 tx s f sn) (some (s, s + 1)) := by
  unfold hit1 at h
  simp only [Bool.and_eq_true, decide_eq_true_eq] at h
  exact .to rfl (at1_yes h.1) (.to rfl (lit1_yes h.2.1 h.2.2) (.to rfl suc1 (.to rfl res1 (.to rfl end1 ⟨rfl, rfl, rfl⟩))))

theorem miss1 {tx : Array Nat} {s : Nat} {f : Bool} {sn : Seen} (h : hit1 tx s = false) :
    ∃ k pc sn', k ≤ 2 ∧ ∀ {n r}, EndsIn n (g1 tx s pc s s f [fS s 5 f] 1 (some false) sn' none) r → EndsIn (n + k) (st1 tx s f sn) r := by
  unfold hit1 at h
  cases hb : bol tx s with
  | false => exact ⟨1, 5, _, by decide, fun h' => .to rfl (at1_no hb) h'⟩
  | true =>
    rw [hb, Bool.true_and] at h
    exact ⟨2, 7, _, by decide, fun h' => .to rfl (at1_yes hb) (.to rfl (lit1_no h) h')⟩

theorem find1_ends (tx : Array Nat) : ∀ (n s : Nat), n = tx.size + 1 - s → s ≤ tx.size → ∀ (f : Bool) (sn : Seen), EndsIn (5 * n) (st1 tx s f sn) (find1 tx n s) := by
  intro n
  induction n with
  | zero => intro s hn hs; omega
  | succ n ih =>
    intro s hn hs f sn
    unfold find1
    cases hh : hit1 tx s with
    | true => exact (hit1_ends hh).mono (by omega)
    | false =>
      obtain ⟨k, pc, sn', hk, step⟩ := miss1 (f := f) (sn := sn) hh
      rw [if_neg Bool.false_ne_true]
      by_cases hlt : s < tx.size
      · have := step (EndsIn.to rfl (back1 hlt) (ih (s + 1) (by omega) (by omega) false sn'))
        exact this.mono (by omega)
      · have hn0 : n = 0 := by omega
        subst hn0
        have hend : EndsIn 1 (g1 tx s 5 s s f [] 0 (some false) sn' none) none := .to rfl fail1 (by show Over none (g1 _ _ _ _ _ _ _ _ _ _ _); exact rfl)
        have := step (EndsIn.to rfl (stop1 hlt) hend)
        exact this.mono (by omega)

def next1 (tx : Array Nat) (j : Nat) : Option (Nat × Nat) := find1 tx (tx.size + 1 - j) j

theorem search1_is (tx : Array Nat) (j : Nat) : forSearch c1 tx 0 j tx.size false =
    (if (decide (j > tx.size) || decide (tx.size - j < 1)) = true then { g1 tx j 5 j j true [] 0 (some false) (({} : Seen).add 14) none with lastStart := 0 } else st1 tx j true (({} : Seen).add 14)) := rfl

theorem find1_end (tx : Array Nat) (n s : Nat) (h : tx.size ≤ s) : find1 tx n s = none := by
  induction n generalizing s with
  | zero => rfl
  | succ n ih =>
    unfold find1
    have hh : hit1 tx s = false := by
      unfold hit1
      rw [decide_eq_false (Nat.not_lt.mpr h), Bool.false_and, Bool.and_false]
    rw [hh, if_neg Bool.false_ne_true]
    exact ih (s + 1) (by omega)

theorem search1 (tx : Array Nat) (j : Nat) (hj : j ≤ tx.size) : EndsIn (5 * (tx.size + 2)) (forSearch c1 tx 0 j tx.size false) (next1 tx j) := by
  rw [search1_is]
  unfold next1
  by_cases h : j < tx.size
  · rw [if_neg (by simp only [Bool.or_eq_true, decide_eq_true_eq]; omega)]
    exact (find1_ends tx _ j rfl hj true _).mono (by omega)
  · rw [if_pos (by simp only [Bool.or_eq_true, decide_eq_true_eq]; omega), find1_end tx _ j (by omega)]
    exact EndsIn.mono (n := 1) (.step rfl rfl) (by omega)

/-! the third pattern: a line's end -/
def c3 : Array Nat := #[14, 9, 4, 1, 2, 16, 10, 16, 13, 0, 7, 7, 16, 13, 16, 10, 15, 18, 5, 16, 10, 15, 13, 11, 16, 13, 5, 5, 0, 16, 10, 1, 15, 2, 0, 1]

def g3 (tx : Array Nat) (s pc pos hnd : Nat) (f : Bool) (fr : List Sre.Frame) (wt : Nat) (ans : Option Bool) (sn : Seen) (out : Option Sre.Outcome) : M :=
  { code := c3, text := tx, lim := tx.size, start := s, lastStart := tx.size, wholeText := false, mustAdvance := false, pc := pc, pos := pos, handed := hnd, outermost := f,
    marks := #[], lastmark := -1, lastindex := -1, loops := #[], inner := none, frames := fr, weight := wt, answer := ans, seen := sn, outcome := out }
def fB (s : Nat) (pc : Nat) (f : Bool) : Sre.Frame := { wait := .nextBranch, pc := pc, pos := s, outermost := f, kept := { lastmark := -1, lastindex := -1, whole := false, marks := #[] } }
def fN (s : Nat) (pc : Nat) (f : Bool) : Sre.Frame := { wait := .lookNot, pc := pc, pos := s, outermost := f, kept := { lastmark := -1, lastindex := -1, whole := false, marks := #[] } }
def st3 (tx : Array Nat) (s : Nat) (f : Bool) (sn : Seen) : M := g3 tx s 10 s s f [fS s 10 f] 1 none sn none

theorem b3 {tx : Array Nat} {s : Nat} {f : Bool} {sn : Seen} : (st3 tx s f sn).step = g3 tx s 12 s s f [fB s 11 f, fS s 10 f] 2 none (sn.add 7) none := rfl

/-- a sign asked at a place -/
def is3 (tx : Array Nat) (p c : Nat) : Bool := decide (p < tx.size) && tx.getD p 0 == c

theorem lit3_of {tx : Array Nat} {s pc pos c hnd : Nat} {f : Bool} {fr : List Sre.Frame} {wt : Nat} {sn : Seen}
    (e : (g3 tx s pc pos hnd f fr wt none sn none).step = (if pos ≥ tx.size then g3 tx s pc pos hnd f fr wt (some false) (sn.add 16) none else
      match (Except.ok ((tx.getD pos 0 == c), sn.add 16) : Except String (Bool × Seen)) with
      | .error why => M.stick (g3 tx s pc pos hnd f fr wt none (sn.add 16) none) why
      | .ok (false, seen) => g3 tx s pc pos hnd f fr wt (some false) seen none
      | .ok (true, seen) => g3 tx s (pc + 2) (pos + 1) hnd f fr wt none seen none)) :
    (g3 tx s pc pos hnd f fr wt none sn none).step = (if is3 tx pos c = true then g3 tx s (pc + 2) (pos + 1) hnd f fr wt none (sn.add 16) none else g3 tx s pc pos hnd f fr wt (some false) (sn.add 16) none) := by
  rw [e]
  unfold is3
  by_cases h : pos < tx.size
  · rw [if_neg (Nat.not_le.mpr h), decide_eq_true h, Bool.true_and]
    cases hc : (tx.getD pos 0 == c) with
    | true => rw [if_pos rfl]
    | false => rw [if_neg Bool.false_ne_true]
  · rw [if_pos (Nat.not_lt.mp h), decide_eq_false h, Bool.false_and, if_neg Bool.false_ne_true]

section
variable {tx : Array Nat} {s pos hnd : Nat} {f o : Bool} {fr : List Sre.Frame} {wt : Nat} {sn : Seen}
theorem lit3_12 : (g3 tx s 12 pos hnd f fr wt none sn none).step = (if is3 tx pos 13 = true then g3 tx s 14 (pos + 1) hnd f fr wt none (sn.add 16) none else g3 tx s 12 pos hnd f fr wt (some false) (sn.add 16) none) := lit3_of rfl
theorem lit3_14 : (g3 tx s 14 pos hnd f fr wt none sn none).step = (if is3 tx pos 10 = true then g3 tx s 16 (pos + 1) hnd f fr wt none (sn.add 16) none else g3 tx s 14 pos hnd f fr wt (some false) (sn.add 16) none) := lit3_of rfl
theorem lit3_19 : (g3 tx s 19 pos hnd f fr wt none sn none).step = (if is3 tx pos 10 = true then g3 tx s 21 (pos + 1) hnd f fr wt none (sn.add 16) none else g3 tx s 19 pos hnd f fr wt (some false) (sn.add 16) none) := lit3_of rfl
theorem lit3_24 : (g3 tx s 24 pos hnd f fr wt none sn none).step = (if is3 tx pos 13 = true then g3 tx s 26 (pos + 1) hnd f fr wt none (sn.add 16) none else g3 tx s 24 pos hnd f fr wt (some false) (sn.add 16) none) := lit3_of rfl
theorem lit3_29 : (g3 tx s 29 pos hnd f fr wt none sn none).step = (if is3 tx pos 10 = true then g3 tx s 31 (pos + 1) hnd f fr wt none (sn.add 16) none else g3 tx s 29 pos hnd f fr wt (some false) (sn.add 16) none) := lit3_of rfl
theorem jump_16 : (g3 tx s 16 pos hnd f fr wt none sn none).step = g3 tx s 35 pos hnd f fr wt none (sn.add 15) none := rfl
theorem jump_21 : (g3 tx s 21 pos hnd f fr wt none sn none).step = g3 tx s 35 pos hnd f fr wt none (sn.add 15) none := rfl
theorem jump_32 : (g3 tx s 32 pos hnd f fr wt none sn none).step = g3 tx s 35 pos hnd f fr wt none (sn.add 15) none := rfl
theorem suc_35 : (g3 tx s 35 pos hnd f fr wt none sn none).step = g3 tx s 35 pos pos f fr wt (some true) (sn.add 1) none := by cases f <;> rfl
theorem resB_yes {pc p : Nat} {b : Nat} : (g3 tx s pc p hnd o [fB s b f, fS s 10 f] 2 (some true) sn none).step = g3 tx s b s hnd f [fS s 10 f] 1 (some true) sn none := rfl
theorem resS_yes {pc p : Nat} : (g3 tx s pc p hnd o [fS s 10 f] 1 (some true) sn none).step = g3 tx s 10 s hnd f [] 0 (some true) sn none := rfl
theorem end3 {pc p : Nat} : (g3 tx s pc p hnd o [] 0 (some true) sn none).step = g3 tx s pc p hnd o [] 0 (some true) sn (some .matched) := rfl
theorem resB_11 {pc p : Nat} : (g3 tx s pc p hnd o [fB s 11 f, fS s 10 f] 2 (some false) sn none).step = g3 tx s 19 s s f [fB s 18 f, fS s 10 f] 2 none sn none := rfl
theorem resB_18 {pc p : Nat} : (g3 tx s pc p hnd o [fB s 18 f, fS s 10 f] 2 (some false) sn none).step = g3 tx s 24 s s f [fB s 23 f, fS s 10 f] 2 none sn none := rfl
theorem not_26 : (g3 tx s 26 (s + 1) hnd f [fB s 23 f, fS s 10 f] 2 none sn none).step = g3 tx s 29 (s + 1) (s + 1) false [fN (s + 1) 26 f, fB s 23 f, fS s 10 f] 3 none (sn.add 5) none := rfl
theorem resN_no {pc p : Nat} : (g3 tx s pc p hnd o [fN (s + 1) 26 f, fB s 23 f, fS s 10 f] 3 (some false) sn none).step = g3 tx s 32 (s + 1) hnd f [fB s 23 f, fS s 10 f] 2 none sn none := rfl
theorem tail3 {pos b : Nat} : EndsIn 4 (g3 tx s 35 pos hnd f [fB s b f, fS s 10 f] 2 none sn none) (some (s, pos)) :=
  .to rfl suc_35 (.to rfl resB_yes (.to rfl resS_yes (.to rfl end3 ⟨rfl, rfl, rfl⟩)))
end

theorem take3_crlf {tx : Array Nat} {s : Nat} {f : Bool} {sn : Seen} (h0 : is3 tx s 13 = true) (h1 : is3 tx (s + 1) 10 = true) : EndsIn 8 (st3 tx s f sn) (some (s, s + 2)) :=
  .to rfl b3 (.to rfl (lit3_12.trans (if_pos h0)) (.to rfl (lit3_14.trans (if_pos h1)) (.to rfl jump_16 tail3)))
theorem take3_lf {tx : Array Nat} {s : Nat} {f : Bool} {sn : Seen} (h0 : is3 tx s 13 = false) (h1 : is3 tx s 10 = true) : EndsIn 9 (st3 tx s f sn) (some (s, s + 1)) :=
  .to rfl b3 (.to rfl (lit3_12.trans (if_neg (by rw [h0]; decide))) (.to rfl resB_11 (.to rfl (lit3_19.trans (if_pos h1)) (.to rfl jump_21 tail3))))
theorem take3_cr {tx : Array Nat} {s : Nat} {f : Bool} {sn : Seen} (h0 : is3 tx s 13 = true) (h1 : is3 tx (s + 1) 10 = false) (h2 : is3 tx s 10 = false) : EndsIn 15 (st3 tx s f sn) (some (s, s + 1)) :=
  .to rfl b3 (.to rfl (lit3_12.trans (if_pos h0)) (.to rfl (lit3_14.trans (if_neg (by rw [h1]; decide))) (.to rfl resB_11 (.to rfl (lit3_19.trans (if_neg (by rw [h2]; decide)))
    (.to rfl resB_18 (.to rfl (lit3_24.trans (if_pos h0)) (.to rfl not_26 (.to rfl (lit3_29.trans (if_neg (by rw [h1]; decide))) (.to rfl resN_no (.to rfl jump_32 tail3))))))))))

/-- the length of the line's end at s: 0 where there is none -/
def eol (tx : Array Nat) (s : Nat) : Nat :=
  if is3 tx s 13 = true then (if is3 tx (s + 1) 10 = true then 2 else 1) else if is3 tx s 10 = true then 1 else 0

theorem take3 {tx : Array Nat} {s : Nat} {f : Bool} {sn : Seen} (h : eol tx s ≠ 0) : EndsIn 15 (st3 tx s f sn) (some (s, s + eol tx s)) := by
  unfold eol at h ⊢
  cases h0 : is3 tx s 13 with
  | true =>
    rw [if_pos rfl]
    cases h1 : is3 tx (s + 1) 10 with
    | true => rw [if_pos rfl]; exact (take3_crlf h0 h1).mono (by decide)
    | false =>
      rw [if_neg Bool.false_ne_true]
      refine take3_cr h0 h1 ?_
      unfold is3 at h0 ⊢
      simp only [Bool.and_eq_true, decide_eq_true_eq, beq_iff_eq] at h0
      simp [h0.1, h0.2]
  | false =>
    rw [if_neg Bool.false_ne_true]
    rw [h0, if_neg Bool.false_ne_true] at h
    cases h1 : is3 tx s 10 with
    | true => rw [if_pos rfl]; exact (take3_lf h0 h1).mono (by decide)
    | false => rw [h1] at h; exact absurd rfl h

/-- the first line's end from s on -/
def find3 (tx : Array Nat) : Nat → Nat → Option (Nat × Nat)
  | 0, _ => none
  | n + 1, s => if s < tx.size then (if eol tx s = 0 then find3 tx n (s + 1) else some (s, s + eol tx s)) else none

theorem inSet3 (c : Nat) (sn : Seen) : ∃ sn', inSet c3 c c3.size 5 true sn = .ok ((c == 10 || c == 13), sn') := by
  have e : inSet c3 c c3.size 5 true sn = (if (c == 10) = true then .ok (true, sn.add 16) else if (c == 13) = true then .ok (true, (sn.add 16).add 16) else .ok (false, ((sn.add 16).add 16).add 0)) := rfl
  rw [e]
  cases h : c == 10 with
  | true => exact ⟨_, rfl⟩
  | false =>
    cases h' : c == 13 with
    | true => exact ⟨_, rfl⟩
    | false => exact ⟨_, rfl⟩

theorem eol_zero {tx : Array Nat} {s : Nat} (h : s < tx.size) : (eol tx s = 0) ↔ ((tx.getD s 0 == 10 || tx.getD s 0 == 13) = false) := by
  unfold eol is3
  rw [decide_eq_true h, Bool.true_and, Bool.true_and]
  cases h0 : tx.getD s 0 == 13 <;> cases h1 : tx.getD s 0 == 10 <;> simp
  all_goals (split <;> simp)

theorem admitted3 {m : M} {tx : Array Nat} (hc : m.code = c3) (ht : m.text = tx) (hl : m.lim = tx.size) : ∀ (n s : Nat) (sn : Seen),
    ∃ sn', M.admitted m n s sn = .ok ((find3 tx n s).map (·.1), sn') := by
  intro n
  induction n with
  | zero => intro s sn; exact ⟨_, rfl⟩
  | succ n ih =>
    intro s sn
    unfold M.admitted find3
    rw [hl]
    by_cases h : s < tx.size
    · rw [if_neg (Nat.not_le.mpr h), if_pos h, hc, ht]
      obtain ⟨sn', e⟩ := inSet3 (tx.getD s 0) sn
      rw [e]
      by_cases hz : eol tx s = 0
      · rw [if_pos hz, (eol_zero h).mp hz]
        exact ih (s + 1) sn'
      · rw [if_neg hz]
        have : (tx.getD s 0 == 10 || tx.getD s 0 == 13) = true := by
          cases hb : (tx.getD s 0 == 10 || tx.getD s 0 == 13) with
          | true => rfl
          | false => exact absurd ((eol_zero h).mpr hb) hz
        rw [this]
        exact ⟨_, rfl⟩
    · rw [if_pos (Nat.not_lt.mp h), if_neg h]
      exact ⟨_, rfl⟩

theorem find3_some {tx : Array Nat} : ∀ (n s a b : Nat), find3 tx n s = some (a, b) → eol tx a ≠ 0 ∧ b = a + eol tx a ∧ s ≤ a ∧ a < tx.size ∧ ∀ i, s ≤ i → i < a → eol tx i = 0 := by
  intro n
  induction n with
  | zero => intro s a b h; cases h
  | succ n ih =>
    intro s a b h
    unfold find3 at h
    by_cases hs : s < tx.size
    · rw [if_pos hs] at h
      by_cases hz : eol tx s = 0
      · rw [if_pos hz] at h
        obtain ⟨q1, q2, q3, q4, q5⟩ := ih _ _ _ h
        refine ⟨q1, q2, by omega, q4, fun i hi hia => ?_⟩
        by_cases e : i = s
        · rw [e]; exact hz
        · exact q5 i (by omega) hia
      · rw [if_neg hz] at h
        cases h
        exact ⟨hz, rfl, Nat.le_refl _, hs, fun i hi hia => by omega⟩
    · rw [if_neg hs] at h; cases h

theorem find3_none {tx : Array Nat} : ∀ (n s : Nat), tx.size + 1 - s ≤ n → find3 tx n s = none → ∀ i, s ≤ i → i < tx.size → eol tx i = 0 := by
  intro n
  induction n with
  | zero => intro s hn h i hi hl; omega
  | succ n ih =>
    intro s hn h i hi hl
    unfold find3 at h
    rw [if_pos (by omega)] at h
    by_cases hz : eol tx s = 0
    · rw [if_pos hz] at h
      by_cases e : i = s
      · rw [e]; exact hz
      · exact ih (s + 1) (by omega) h i (by omega) hl
    · rw [if_neg hz] at h; cases h

def next3 (tx : Array Nat) (j : Nat) : Option (Nat × Nat) := find3 tx (tx.size + 1 - j) j

theorem search3_is (tx : Array Nat) (j : Nat) : forSearch c3 tx 0 j tx.size false =
    (if (decide (j > tx.size) || decide (tx.size - j < 1)) = true then { g3 tx j 10 j j true [] 0 (some false) (({} : Seen).add 14) none with lastStart := 0 } else
      M.attemptFrom (g3 tx j 10 j j true [] 0 none (({} : Seen).add 14) none) j true) := rfl

theorem search3 (tx : Array Nat) (j : Nat) (hj : j ≤ tx.size) : EndsIn 20 (forSearch c3 tx 0 j tx.size false) (next3 tx j) := by
  rw [search3_is]
  unfold next3
  by_cases h : j < tx.size
  · rw [if_neg (by simp only [Bool.or_eq_true, decide_eq_true_eq]; omega)]
    obtain ⟨sn', e⟩ := admitted3 (m := g3 tx j 10 j j true [] 0 none (({} : Seen).add 14) none) (tx := tx) rfl rfl rfl (tx.size + 1 - j) j (({} : Seen).add 14)
    have e2 : M.attemptFrom (g3 tx j 10 j j true [] 0 none (({} : Seen).add 14) none) j true =
        (match M.admitted (g3 tx j 10 j j true [] 0 none (({} : Seen).add 14) none) (tx.size + 1 - j) j (({} : Seen).add 14) with
          | .ok (some s, seen) => st3 tx s true seen
          | .ok (none, seen) => g3 tx j 10 j j true [] 0 (some false) seen none
          | .error why => M.stick (g3 tx j 10 j j true [] 0 none (({} : Seen).add 14) none) why) := rfl
    rw [e2, e]
    cases hf : find3 tx (tx.size + 1 - j) j with
    | none => exact EndsIn.mono (n := 1) (.step rfl rfl) (by omega)
    | some p =>
      obtain ⟨a, b⟩ := p
      obtain ⟨q1, q2, _⟩ := find3_some _ _ _ _ hf
      subst q2
      exact (take3 q1).mono (by decide)
  · rw [if_pos (by simp only [Bool.or_eq_true, decide_eq_true_eq]; omega)]
    have : find3 tx (tx.size + 1 - j) j = none := by
      cases hn : tx.size + 1 - j with
      | zero => rfl
      | succ n => unfold find3; rw [if_neg h]
    rw [this]
    exact EndsIn.mono (n := 1) (.step rfl rfl) (by omega)
end Mine
end
section
set_option maxRecDepth 100000
namespace Mine
open PySem PySem.Sre PySem.W PyProof.Rows PySem.Builtin.Re
open PySem.Builtin (Bytes.bufferQuiet?)

theorem wp_pos {M : Model} {A : Around} {E : Value → Shared → Prop} {s : Shared} {α : Type} {c : Prop} {d : Decidable c} {a b : Sem α} {Q : α → Shared → Prop} (hc : c) (h : wpAny M A a Q E s) : wpAny M A (@ite _ c d a b) Q E s := by
  rw [if_pos hc]; exact h
theorem wp_neg {M : Model} {A : Around} {E : Value → Shared → Prop} {s : Shared} {α : Type} {c : Prop} {d : Decidable c} {a b : Sem α} {Q : α → Shared → Prop} (hc : ¬ c) (h : wpAny M A b Q E s) : wpAny M A (@ite _ c d a b) Q E s := by
  rw [if_neg hc]; exact h

theorem wp_rules {M : Model} {A : Around} {E : Value → Shared → Prop} {s : Shared} {c : Nat → Bool} {t : Nat → String} {Q : PUnit → Shared → Prop} (h : Q ⟨⟩ s) : ∀ l : List Nat,
    wpAny M A ((forIn l PUnit.unit fun i _ => if c i = true then (do rule (t i); pure (ForInStep.yield PUnit.unit)) else pure (ForInStep.yield PUnit.unit)) : Sem PUnit) Q E s := by
  intro l
  induction l with
  | nil => exact wpAny_pure h
  | cons i l ih =>
    rw [List.forIn_cons]
    refine wpAny_bind ?_
    cases c i with
    | true => exact wpAny_bind (wpAny_rule (wpAny_pure ih))
    | false => exact wpAny_pure ih

theorem drive_ends {M : Model} {A : Around} {E : Value → Shared → Prop} {s : Shared} {r : Option (Nat × Nat)} {Q : Sre.M → Shared → Prop} (h : ∀ m', Over r m' → Q m' s) : ∀ (turns n : Nat) (m : Sre.M), n ≤ turns → EndsIn n m r → 0 < turns → wpAny M A (reDrive turns m) Q E s := by
  intro turns
  induction turns with
  | zero => intro n m hn he h0; exact absurd h0 (Nat.lt_irrefl _)
  | succ turns ih =>
    intro n m hn he _
    show wpAny M A (if (m.runFor reTurnSteps).outcome.isSome then pure (m.runFor reTurnSteps) else do rule "sre.turn"; reDrive turns (m.runFor reTurnSteps)) Q E s
    by_cases ho : (m.runFor reTurnSteps).outcome.isSome = true
    · rw [if_pos ho]
      refine wpAny_pure (h _ ?_)
      have e := he.mono (n' := 4 + n) (by omega)
      unfold EndsIn at e
      rw [runFor_add] at e
      have := runFor_stop ho n
      unfold reTurnSteps at this
      rw [this] at e
      exact e
    · rw [if_neg ho]
      refine wpAny_bind (wpAny_rule ?_)
      by_cases hle : n ≤ 4
      · have e := he.mono hle
        exact absurd (Over.some e) ho
      · have e : EndsIn (n - 4) (m.runFor reTurnSteps) r := by
          unfold EndsIn reTurnSteps at *
          rw [← runFor_add]
          have : 4 + (n - 4) = n := by omega
          rw [this]; exact he
        exact ih (n - 4) _ (by omega) e (by omega)
set_option pp.all false
theorem run_to_end {M : Model} {A : Around} {E : Value → Shared → Prop} {s : Shared} {r : Option (Nat × Nat)} {m : Sre.M} {n : Nat} {Q : Option Sre.M → Shared → Prop} (he : EndsIn n m r) (hn : n ≤ 2 ^ 64)
    (h : ∀ m', Over r m' → Q (r.map fun _ => m') s) : wpAny M A (reRunToEnd m) Q E s := by
  unfold reRunToEnd
  refine wpAny_bind (drive_ends (fun m' hm => ?_) (2 ^ 64) n m hn he (by decide))
  refine wpAny_bind (wp_rules ?_ _)
  have q := h m' hm
  cases r with
  | none =>
    have e : m'.outcome = some .failed := hm
    rw [e]; exact wpAny_pure q
  | some p =>
    obtain ⟨a, b⟩ := p
    have e : m'.outcome = some .matched := hm.1
    rw [e]; exact wpAny_pure q

/-- a text by its kind: 0 a str, 1 bytes -/
def tv (kind : Nat) (x : Array Nat) (t : Tok) : Value := if kind = 0 then .str ⟨x⟩ t else .bytes (x.map (·.toUInt8)) t

/-- a pattern that stands at an address -/
structure PatAt (h : Heap) (pat : Addr) (code : Array Nat) (kind : Nat) : Prop where
  at' : ∃ o fs ct oc items c, h.get? pat = some o ∧ o.cls = .type "re.Pattern" ∧ o.dict = none ∧ o.data = .fields fs ∧ fs.getD 2 .none = rawInt 0 ∧ fs.getD 5 .none = .ref ct ∧ fs.getD 6 .none = rawInt kind ∧
    h.get? ct = some oc ∧ oc.data = .seq items c ∧ (items.map reRawOf).map (·.toNat) = code ∧ oc.cls = .type "tuple"

theorem PatAt.keeps {h h' : Heap} {pat : Addr} {code : Array Nat} {kind : Nat} (p : PatAt h pat code kind) (k : ∀ o c, (h.get? c = some o ∧ (c = pat ∨ o.cls = .type "tuple")) → h'.get? c = some o) : PatAt h' pat code kind := by
  obtain ⟨o, fs, ct, oc, items, c, h1, h2, h3, h4, h5, h6, h7, h8, h9, h10, h11⟩ := p.at'
  exact ⟨o, fs, ct, oc, items, c, k _ _ ⟨h1, .inl rfl⟩, h2, h3, h4, h5, h6, h7, k _ _ ⟨h8, .inr h11⟩, h9, h10, h11⟩

theorem sub_bytes_bytes' : isSubtype (.type "bytes") (.type "bytes") = pure true := F.bm_sub
theorem text_of_str (x : Array Nat) (t : Tok) : reTextOf (.str ⟨x⟩ t) = pure (x, 0) := rfl
theorem text_of_bytes (b : Array UInt8) (t : Tok) : reTextOf (.bytes b t) = pure (b.map (·.toNat), 1) := by
  have e : reTextOf (.bytes b t) = (do match ← Bytes.bufferQuiet? "_sre" (.bytes b t) with
    | some b => pure (b.map (·.toNat), 1)
    | none => raiseError "TypeError" s!"expected string or bytes-like object, got '{← typeNameOf (.bytes b t)}'") := rfl
  rw [e, KBy.quiet_eq]
  rfl

def below (x : Array Nat) : Prop := ∀ c ∈ x.toList, c < 256
theorem below_map {x : Array Nat} (h : below x) : (x.map (·.toUInt8)).map (·.toNat) = x := by
  obtain ⟨l⟩ := x
  simp only [below] at h
  simp only [List.map_toArray, List.map_map]
  congr 1
  induction l with
  | nil => rfl
  | cons c l ih =>
    rw [List.map_cons, ih fun d hd => h d (List.mem_cons_of_mem _ hd)]
    congr 1
    have := h c (List.mem_cons_self ..)
    simp only [Function.comp_apply]
    show (UInt8.ofNat c).toNat = c
    rw [UInt8.toNat_ofNat']
    exact Nat.mod_eq_of_lt this

theorem text_of {kind : Nat} {x : Array Nat} {t : Tok} (hk : kind = 0 ∨ (kind = 1 ∧ below x)) : reTextOf (tv kind x t) = pure (x, kind) := by
  rcases hk with rfl | ⟨rfl, hb⟩
  · exact text_of_str x t
  · show reTextOf (.bytes (x.map (·.toUInt8)) t) = _
    rw [text_of_bytes, below_map hb]

theorem no_coll {M : Model} {A : Around} {E : Value → Shared → Prop} {s : Shared} {kind : Nat} {x : Array Nat} {t : Tok} {Q : Unit → Shared → Prop} (hk : kind = 0 ∨ (kind = 1 ∧ below x)) (h : Q () s) : wpAny M A (reNoCollectionInside (tv kind x t) kind) Q E s := by
  rcases hk with rfl | ⟨rfl, hb⟩
  · exact wpAny_pure h
  · show wpAny M A (do if !(← isInstance (.bytes (x.map (·.toUInt8)) t) (.type "bytes")) then _) Q E s
    refine wpAny_bind (wpAny_isInstance (T := "bytes") (b := true) rfl F.bm_sub ?_)
    exact wpAny_pure h

theorem lit_fixed {M : Model} {A : Around} {E : Value → Shared → Prop} {s : Shared} {kind : Nat} {x : Array Nat} {t : Tok} {Q : Unit → Shared → Prop} (hk : kind = 0 ∨ kind = 1) (h : Q () s) : wpAny M A (reLiteralCannotBeTurned (tv kind x t)) Q E s := by
  rcases hk with rfl | rfl
  · exact wpAny_pure h
  · unfold reLiteralCannotBeTurned
    refine wpAny_bind (wpAny_of_eq (a := none) rfl ?_)
    dsimp only [Option.isNone_none]
    rw [if_pos rfl]
    refine wpAny_bind (wpAny_isInstance (T := "bytes") (b := true) rfl F.bm_sub ?_)
    exact wpAny_pure h

def tgt (pat : Addr) (code : Array Nat) (kind : Nat) (x : Array Nat) (t : Tok) : ReTarget := { pattern := .ref pat, string := tv kind x t, code, text := x, kind, groups := 0, pos := 0, lim := x.size }

theorem raw_items {M : Model} {A : Around} {E : Value → Shared → Prop} {s : Shared} {a : Addr} {o : Obj} {items : Array Value} {c : Nat} {Q : Array Int → Shared → Prop} (ho : s.heap.get? a = some o) (hd : o.data = .seq items c) (h : Q (items.map reRawOf) s) :
    wpAny M A (reRawItems (.ref a)) Q E s := by
  unfold reRawItems
  exact wpAny_bind (wpAny_seqItems ho hd (wpAny_pure h))

theorem whole_target {M : Model} {A : Around} {E : Value → Shared → Prop} {s : Shared} {kind : Nat} {x code : Array Nat} {t : Tok} {pat : Addr} {Q : ReTarget → Shared → Prop} (hp : PatAt s.heap pat code kind) (hk : kind = 0 ∨ (kind = 1 ∧ below x))
    (h : Q (tgt pat code kind x t) s) : wpAny M A (reWholeTarget (.ref pat) (tv kind x t)) Q E s := by
  obtain ⟨o, fs, ct, oc, items, c, h1, h2, h3, h4, h5, h6, h7, h8, h9, h10, h11⟩ := hp.at'
  unfold reWholeTarget
  refine wpAny_bind (wpAny_fieldsOf h1 h4 ?_)
  refine wpAny_bind (wpAny_of_eq (text_of hk) ?_)
  dsimp only
  have e0 : reRawNat (rawInt (kind : Int)) = kind := rfl
  rw [h7, h6, h5, e0]
  have c1' : (kind == 0 && kind == 1) = false := by rcases hk with rfl | ⟨rfl, _⟩ <;> rfl
  have c2' : (kind == 1 && kind == 0) = false := by rcases hk with rfl | ⟨rfl, _⟩ <;> rfl
  rw [c1', c2', if_neg Bool.false_ne_true, if_neg Bool.false_ne_true]
  refine wpAny_bind (no_coll hk ?_)
  refine wpAny_bind (raw_items h8 h9 (wpAny_pure ?_))
  rw [h10]
  exact h

inductive SubTo (next : Nat → Option (Nat × Nat)) (tx rp : Array Nat) : Nat → Array Nat → Prop
  | stop {j : Nat} : next j = none → SubTo next tx rp j (tx.extract j tx.size)
  | more {j a b : Nat} {out : Array Nat} : next j = some (a, b) → j ≤ a → a < b → b ≤ tx.size → SubTo next tx rp b out → SubTo next tx rp j (tx.extract j a ++ rp ++ out)

def pv (kind : Nat) (ps : List (Array Nat × Tok)) : List Value := ps.map fun p => tv kind p.1 p.2
def cat (ps : List (Array Nat × Tok)) : List Nat := ps.flatMap fun p => p.1.toList

theorem slice_kind {M : Model} {A : Around} {E : Value → Shared → Prop} {s : Shared} {kind : Nat} {x : Array Nat} {b e : Nat} {Q : Value → Shared → Prop} (hk : kind = 0 ∨ kind = 1) (hz : x.size ≤ sizeLine)
    (h : Q (tv kind (x.extract b e) s.toks) { s with toks := s.toks + 1 }) : wpAny M A (reSlice x kind b e) Q E s := by
  have hle : (x.extract b e).size ≤ sizeLine := by rw [Array.size_extract]; omega
  rcases hk with rfl | rfl
  · exact wpAny_mkStr h hle
  · exact wpAny_mkBytes h (by rw [Array.size_map]; exact hle)

namespace FR
theorem plain_sub_loop : plainId "re.Pattern.sub.loop" = true := by decide +kernel
theorem entry_sub_loop : entryFor table "re.Pattern.sub.loop" = some Builtin.«re.Pattern.sub.loop» := by first | exact entryFor_of_fast (by kernel_rfl) | exact entryFor_of_tree (by kernel_rfl)
theorem plain_sub : plainId "re.Pattern.sub" = true := by decide +kernel
theorem entry_sub : entryFor table "re.Pattern.sub" = some Builtin.«re.Pattern.sub» := by first | exact entryFor_of_fast (by kernel_rfl) | exact entryFor_of_tree (by kernel_rfl)
theorem slot_sub : Slot "re.Pattern" "sub" "re.Pattern.sub" :=
  .of (owner := "re.Pattern") (n := "sub") (by rw [typeLookup_type, builtinLookup_eq_fast]; kernel_rfl) (by decide +kernel) (by decide +kernel) (by decide +kernel)
    (by first | exact .inl (by decide +kernel) | exact .inr (by decide +kernel)) (by rw [isSubtype_type]; kernel_rfl)
theorem type_sub : typeOf (.builtin "re.Pattern.sub") = pure (.type "method_descriptor") := by show builtinType _ = _; rw [builtinType_eq_fast]; kernel_rfl
theorem plain_attrs : PlainAttrs "re.Pattern" where
  ga := ⟨"object.__getattribute__", by rw [typeLookup_type, builtinLookup_eq_fast]; kernel_rfl, by decide +kernel⟩
  noGetattr := by rw [typeLookup_type, builtinLookup_eq_fast]; kernel_rfl
end FR

/-- what a join gives -/
def JoinsTo (kind : Nat) : Prop := ∀ {prog : Program} {w : World} {A : Around} {E : Value → Shared → Prop} {s : Shared} {P : Addr} {o : Obj} {ps : List (Array Nat × Tok)} {c : Nat} {t : Tok} {Q : Value → Shared → Prop},
  s.heap.get? P = some o → o.cls = .type "list" → o.data = .seq (pv kind ps).toArray c → ps ≠ [] → ps.length ≤ sizeLine → (cat ps).length ≤ sizeLine → (∀ t' k, Q (tv kind (cat ps).toArray t') { s with toks := k }) →
  wpAny (model prog w) A (call (.builtin (if kind == 0 then "str.join" else "bytes.join")) [tv kind #[] t, .ref P]) Q E s

def tailOf (x : Array Nat) (kind : Nat) (P : Addr) (n : Int) : Sem Fin := do
  let joiner ← reSlice x kind 0 0
  let text ← if ((← seqItems? (.ref P)).getD #[]).isEmpty then pure joiner
    else call (.builtin (if kind == 0 then "str.join" else "bytes.join")) [joiner, .ref P]
  if false then ret (← holding [text] do newTuple [text, ← mkInt n]) else ret text

theorem cat_append (a b : List (Array Nat × Tok)) : cat (a ++ b) = cat a ++ cat b := by simp [cat]
theorem pv_append (kind : Nat) (a b : List (Array Nat × Tok)) : pv kind (a ++ b) = pv kind a ++ pv kind b := by simp [pv]

theorem tail_ok {prog : Program} {w : World} {A : Around} {E : Value → Shared → Prop} {s : Shared} {kind : Nat} {x : Array Nat} {P : Addr} {n : Int} {ps : List (Array Nat × Tok)} {c : Nat} {Q : Fin → Shared → Prop}
    (hk : kind = 0 ∨ kind = 1) (hJ : JoinsTo kind) (hz : x.size ≤ sizeLine) (hP : s.heap.get? P = some { cls := .type "list", data := .seq (pv kind ps).toArray c }) (hl : ps.length ≤ sizeLine) (hc : (cat ps).length ≤ sizeLine)
    (h : ∀ t' k, Q (.done (.ret (tv kind (cat ps).toArray t'))) { s with toks := k }) : wpAny (model prog w) A (tailOf x kind P n) Q E s := by
  unfold tailOf
  refine wpAny_bind (slice_kind hk hz ?_)
  have e0 : x.extract 0 0 = #[] := by simp
  rw [e0]
  refine wpAny_bind (wpAny_seqItems (s := { s with toks := s.toks + 1 }) hP rfl ?_)
  cases ps with
  | nil =>
    rw [if_pos (by rfl)]
    refine wpAny_bind (wpAny_pure ?_)
    dsimp only
    rw [if_neg Bool.false_ne_true]
    exact wpAny_pure (h _ _)
  | cons p r =>
    rw [if_neg (by exact Bool.false_ne_true)]
    refine wpAny_bind (hJ (s := { s with toks := s.toks + 1 }) hP rfl rfl (by simp) hl hc fun t' k => ?_)
    dsimp only
    rw [if_neg Bool.false_ne_true]
    exact wpAny_pure (h _ _)

theorem push_at {h : Heap} {P : Addr} {ps : List (Array Nat × Tok)} {kind c : Nat} (y : Array Nat) (t : Tok) (hP : h.get? P = some { cls := .type "list", data := .seq (pv kind ps).toArray c }) :
    ∃ c', (h.update P (Obj.mapSeq (·.push (tv kind y t)))).get? P = some { cls := .type "list", data := .seq (pv kind (ps ++ [(y, t)])).toArray c' } := by
  have e : (pv kind (ps ++ [(y, t)])).toArray = (pv kind ps).toArray.push (tv kind y t) := by rw [pv_append, List.push_toArray]; rfl
  rw [e]
  exact ⟨_, Heap.get?_update_self _ hP rfl⟩

theorem arr_cat (l : List Nat) (y r out : Array Nat) : (l ++ y.toList ++ r.toList).toArray ++ out = l.toArray ++ (y ++ r ++ out) := by
  apply Array.ext'
  simp only [Array.toList_append, List.toList_toArray, List.append_assoc]

theorem sub_loop {prog : Program} {w : World} {A : Around} {kind : Nat} {x rp code : Array Nat} {t u : Tok} {pat P : Addr} {next : Nat → Option (Nat × Nat)} {N : Nat} {R : Result → Shared → Prop}
    (hk : kind = 0 ∨ (kind = 1 ∧ below x)) (hJ : JoinsTo kind) (hz : x.size ≤ 2 ^ 20) (hrp : rp.size ≤ 2) (hN : N ≤ 2 ^ 64) (hne : P ≠ pat)
    (hs : ∀ j, j ≤ x.size → EndsIn N (forSearch code x 0 j x.size false) (next j)) :
    ∀ {j : Nat} {out : Array Nat}, SubTo next x rp j out → ∀ (s : Shared) (ps : List (Array Nat × Tok)) (c : Nat) (n : Int), j ≤ x.size → PatAt s.heap pat code kind →
      s.heap.get? P = some { cls := .type "list", data := .seq (pv kind ps).toArray c } → ps.length ≤ 2 * j → (cat ps).length ≤ 3 * j →
      (∀ h' tk t', (∀ b o, b ≠ P → s.heap.get? b = some o → h'.get? b = some o) → R (.ok (.ret (tv kind ((cat ps).toArray ++ out) t'))) { s with heap := h', toks := tk }) →
      codeAny (model prog w) A (.builtin "re.Pattern.sub.loop" ⟨[.ref pat, tv kind x t, tv kind rp u, rawInt 0, rawInt 0, rawInt n, rawInt j, rawInt j, .bool false, .ref P, .bool false], []⟩) R s := by
  intro j out hsub
  have hk' : kind = 0 ∨ kind = 1 := hk.elim .inl fun h => .inr h.1
  have hzl : x.size ≤ sizeLine := by rw [sizeLine_eq]; omega
  induction hsub with
  | @stop j hj =>
    intro s ps c n hjx hp hP hl1 hl2 hR
    refine codeAny_builtin FR.entry_sub_loop ?_
    rw [Around.under_plainId FR.plain_sub_loop _]
    unfold Builtin.«re.Pattern.sub.loop»
    dsimp only [rawInt]
    refine wpAny_bind (whole_target hp hk ?_)
    refine wpAny_ite ?_
    rw [if_pos (by decide)]
    refine wpAny_bind (lit_fixed hk' ?_)
    rw [if_neg (by exact Bool.false_ne_true)]
    dsimp only [tgt]
    refine wpAny_bind (run_to_end (hs j hjx) hN fun m' hm => ?_)
    rw [hj]
    dsimp only [Option.map_none]
    have et : ((j : Int)).toNat = j := rfl
    rw [et]
    by_cases hlt : j < x.size
    · refine wp_pos hlt ?_
      refine wpAny_bind (slice_kind hk' hzl ?_)
      refine wpAny_bind (wpAny_updateSeq (s := { s with toks := s.toks + 1 }) hP rfl ?_ (by simp only [List.size_toArray, pv, List.length_map]; rw [sizeLine_eq]; omega) (by simp only [Array.size_push, List.size_toArray, pv, List.length_map]; rw [sizeLine_eq]; omega))
      obtain ⟨c', hP'⟩ := push_at (x.extract j x.size) s.toks hP
      refine tail_ok (x := x) (P := P) (n := n) hk' hJ hzl hP' (by rw [List.length_append, sizeLine_eq]; simp only [List.length_cons, List.length_nil]; omega) ?_ fun t' k => ?_
      · rw [cat_append, List.length_append, sizeLine_eq]
        simp only [cat, List.flatMap_cons, List.flatMap_nil, List.append_nil, Array.length_toList, Array.size_extract] at hl2 ⊢
        omega
      · have := hR (s.heap.update P (Obj.mapSeq (·.push (tv kind (x.extract j x.size) s.toks)))) k t' fun b o hb e => (Heap.get?_update_other _ _ (Ne.symm hb)).trans e
        rw [cat_append]
        have e2 : (cat [(x.extract j x.size, s.toks)]) = (x.extract j x.size).toList := by simp [cat]
        have e3 : (cat ps ++ (x.extract j x.size).toList).toArray = (cat ps).toArray ++ x.extract j x.size := by simp
        rw [e2, e3]
        exact this
    · refine wp_neg hlt ?_
      have e4 : x.extract j x.size = #[] := by
        apply Array.eq_empty_of_size_eq_zero; rw [Array.size_extract]; omega
      rw [e4] at hR
      refine tail_ok (x := x) (P := P) (n := n) hk' hJ hzl hP (by rw [sizeLine_eq]; omega) (by rw [sizeLine_eq]; omega) fun t' k => ?_
      have := hR s.heap k t' fun b o _ e => e
      rw [Array.append_empty] at this
      exact this
  | @more j a b out h1 h2 h3 h4 _ ih =>
    intro s ps c n hjx hp hP hl1 hl2 hR
    refine codeAny_builtin FR.entry_sub_loop ?_
    rw [Around.under_plainId FR.plain_sub_loop _]
    unfold Builtin.«re.Pattern.sub.loop»
    dsimp only [rawInt]
    refine wpAny_bind (whole_target hp hk ?_)
    refine wpAny_ite ?_
    rw [if_pos (by decide)]
    refine wpAny_bind (lit_fixed hk' ?_)
    rw [if_neg (by exact Bool.false_ne_true)]
    dsimp only [tgt]
    refine wpAny_bind (run_to_end (hs j hjx) hN fun m' hm => ?_)
    rw [h1] at hm ⊢
    obtain ⟨_, hm1, hm2⟩ := hm
    dsimp only [Option.map_some]
    have et : ((j : Int)).toNat = j := rfl
    rw [et, hm1, hm2]
    have hmust : (b == a) = false := by simp; omega
    rw [hmust]
    have hnn : ((tv kind rp u) != Value.none) = true := by rcases hk' with rfl | rfl <;> rfl
    have fin : ∀ (s' : Shared) (ps' : List (Array Nat × Tok)) (c' : Nat), s'.heap.get? P = some { cls := .type "list", data := .seq (pv kind ps').toArray c' } → ps'.length ≤ 2 * j + 1 → (cat ps').length ≤ 3 * j + (a - j) → cat ps' = cat ps ++ (x.extract j a).toList →
        s'.gens = s.gens → s'.drawn = s.drawn → s'.os = s.os → (∀ b o, b ≠ P → s.heap.get? b = some o → s'.heap.get? b = some o) →
        wpAny (model prog w) A.in1 (if (tv kind rp u != Value.none) = true then (do updateSeq P (fun x => x.push (tv kind rp u)); again (Code.builtin "re.Pattern.sub.loop" { pos := [Value.ref pat, tv kind x t, tv kind rp u, Value.int 0 0, Value.int 0 0, Value.int (n + 1) 0, Value.int (b : Int) 0, Value.int (b : Int) 0, Value.bool false, Value.ref P, Value.bool false] }))
          else again (Code.builtin "re.Pattern.sub.loop" { pos := [Value.ref pat, tv kind x t, tv kind rp u, Value.int 0 0, Value.int 0 0, Value.int (n + 1) 0, Value.int (b : Int) 0, Value.int (b : Int) 0, Value.bool false, Value.ref P, Value.bool false] }))
          (fun fin s' => match fin with | .done f => R (.ok f) s' | .again c' => c'.quiet = true ∧ codeAny (model prog w) A c' R s') (fun e s' => R (.error e) s') s' := by
      intro s' ps' c' hP' hl1' hl2' hcat hg hd ho hkeep
      rw [if_pos hnn]
      refine wpAny_bind (wpAny_updateSeq hP' rfl ?_ (by simp only [List.size_toArray, pv, List.length_map]; rw [sizeLine_eq]; omega) (by simp only [Array.size_push, List.size_toArray, pv, List.length_map]; rw [sizeLine_eq]; omega))
      obtain ⟨c'', hP''⟩ := push_at rp u hP'
      refine wpAny_pure ⟨plainId_quiet FR.plain_sub_loop _, ih { s' with heap := s'.heap.update P (Obj.mapSeq (·.push (tv kind rp u))) } (ps' ++ [(rp, u)]) c'' (n + 1) h4 ?_ hP'' ?_ ?_ ?_⟩
      · refine hp.keeps fun o c hh => ?_
        have hcp : c ≠ P := by
          rintro rfl
          rcases hh.2 with e | e
          · exact hne e
          · rw [hP] at hh
            have := Option.some.inj hh.1
            rw [← this] at e
            exact absurd (Value.type.inj e) (by decide)
        exact (Heap.get?_update_other _ _ (Ne.symm hcp)).trans (hkeep _ _ hcp hh.1)
      · rw [List.length_append]; simp only [List.length_cons, List.length_nil]; omega
      · rw [cat_append, List.length_append]
        have : (cat [(rp, u)]).length = rp.size := by simp [cat]
        omega
      · intro h' tk t' hk'
        have := hR h' tk t' fun b o hb e => hk' b o hb ((Heap.get?_update_other _ _ (Ne.symm hb)).trans (hkeep b o hb e))
        rw [cat_append, hcat]
        have e2 : cat [(rp, u)] = rp.toList := by simp [cat]
        have e3 : (cat ps ++ (x.extract j a).toList ++ rp.toList).toArray ++ out = (cat ps).toArray ++ (x.extract j a ++ rp ++ out) := arr_cat _ _ _ _
        rw [e2, e3]
        obtain ⟨sh, sg, sd, st, so⟩ := s
        obtain ⟨sh', sg', sd', st', so'⟩ := s'
        simp only at hg hd ho
        subst hg hd ho
        exact this
    by_cases hlt : j < a
    · refine wp_pos hlt ?_
      refine wpAny_bind (slice_kind hk' hzl ?_)
      refine wpAny_bind (wpAny_updateSeq (s := { s with toks := s.toks + 1 }) hP rfl ?_ (by simp only [List.size_toArray, pv, List.length_map]; rw [sizeLine_eq]; omega) (by simp only [Array.size_push, List.size_toArray, pv, List.length_map]; rw [sizeLine_eq]; omega))
      obtain ⟨c', hP'⟩ := push_at (x.extract j a) s.toks hP
      refine wp_pos (by decide) ?_
      refine wpAny_bind (wpAny_pure ?_)
      have e2 : cat [(x.extract j a, s.toks)] = (x.extract j a).toList := by simp [cat]
      refine fin _ (ps ++ [(x.extract j a, s.toks)]) c' hP' (by rw [List.length_append]; simp only [List.length_cons, List.length_nil]; omega) ?_ (by rw [cat_append, e2]) rfl rfl rfl fun b o hb e => (Heap.get?_update_other _ _ (Ne.symm hb)).trans e
      rw [cat_append, List.length_append, e2]
      simp only [Array.length_toList, Array.size_extract]
      omega
    · refine wp_neg hlt ?_
      refine wp_pos (by decide) ?_
      refine wpAny_bind (wpAny_pure ?_)
      have e4 : x.extract j a = #[] := by
        apply Array.eq_empty_of_size_eq_zero; rw [Array.size_extract]; omega
      exact fin s ps c hP (by omega) (by omega) (by rw [e4]; simp) rfl rfl rfl fun _ _ _ e => e
end Mine
end
section
set_option maxRecDepth 100000
namespace Mine
open PySem PySem.Sre PySem.W PyProof.Rows PySem.Builtin.Re
open PySem.Builtin (Bytes.bufferQuiet?)

namespace FR
theorem nocall_str : typeLookup (.type "str") "__call__" = pure none := by rw [typeLookup_type, builtinLookup_eq_fast]; kernel_rfl
theorem nocall_bytes : typeLookup (.type "bytes") "__call__" = pure none := by rw [typeLookup_type, builtinLookup_eq_fast]; kernel_rfl
theorem args_sub (a b c : Value) : argsOk "re.Pattern.sub" ⟨[a, b, c], []⟩ := by unfold argsOk; kernel_rfl
theorem entry_bytes_join : entryFor table "bytes.join" = some Builtin.«bytes.join» := by first | exact entryFor_of_fast (by kernel_rfl) | exact entryFor_of_tree (by kernel_rfl)
theorem slot_bytes_join : Slot "bytes" "join" "bytes.join" :=
  .of (owner := "bytes") (n := "join") (by rw [typeLookup_type, builtinLookup_eq_fast]; kernel_rfl) (by decide +kernel) (by decide +kernel) (by decide +kernel)
    (by first | exact .inl (by decide +kernel) | exact .inr (by decide +kernel)) (by rw [isSubtype_type]; kernel_rfl)
theorem args_bytes_join (a b : Value) : argsOk "bytes.join" ⟨[a, b], []⟩ := by unfold argsOk; kernel_rfl
end FR

theorem nocall {kind : Nat} (hk : kind = 0 ∨ kind = 1) {x : Array Nat} {t : Tok} : specialOf (tv kind x t) "__call__" = pure none := by
  rcases hk with rfl | rfl
  · show typeLookup (.type "str") "__call__" = _; exact FR.nocall_str
  · show typeLookup (.type "bytes") "__call__" = _; exact FR.nocall_bytes

theorem named_sub (a b : Value) : reNamed "re.Pattern.sub" "sub" ["repl", "string", "count"] 2 [a, b] [] = pure [some a, some b, none] := rfl

theorem wp_check {prog : Program} {w : World} {A : Around} {id : String} {b : Builtin} {T : String} {name : Str} {self : Value} {rest : List Value} {s : Shared} {Q : Value → Shared → Prop} {E : Value → Shared → Prop} (slot : Slot T name id) (hT : s.TypeIs self T) (hb : entryFor table id = some b) (ha : argsOk id ⟨self :: rest, []⟩)
    (h : wpAny (model prog w) A.in1 (b ⟨self :: rest, []⟩) (fun fin s' => match fin with
      | .done f => (match (Except.ok f : Result) with | .ok (.ret v) => Q v s' | .ok _ => False | .error e => E e s')
      | .again c' => c'.quiet = true ∧ codeAny (model prog w) A c' (fun r s' => match r with | .ok (.ret v) => Q v s' | .ok _ => False | .error e => E e s') s') E s) :
    wpAny (model prog w) A (call (.builtin id) (self :: rest)) Q E s := by
  refine wpAny_call (codeAny_call_builtin slot.plain hb ?_)
  exact slot.check _ _ _ _ _ _ _ _ hT ha h

theorem sub_call {prog : Program} {w : World} {A : Around} {E : Value → Shared → Prop} {s : Shared} {kind : Nat} {x rp code : Array Nat} {t u : Tok} {pat : Addr} {next : Nat → Option (Nat × Nat)} {N : Nat} {Q : Value → Shared → Prop} {out : Array Nat}
    (hk : kind = 0 ∨ (kind = 1 ∧ below x ∧ below rp)) (hJ : JoinsTo kind) (hz : x.size ≤ 2 ^ 20) (hrp : rp.size ≤ 2) (h92 : rp.contains 92 = false) (h92' : (rp.map (·.toUInt8)).contains 92 = false) (hN : N ≤ 2 ^ 64)
    (hs : ∀ j, j ≤ x.size → EndsIn N (forSearch code x 0 j x.size false) (next j)) (hsub : SubTo next x rp 0 out) (hp : PatAt s.heap pat code kind)
    (h : ∀ h' tk t', (∀ b o, s.heap.get? b = some o → h'.get? b = some o) → Q (tv kind out t') { s with heap := h', toks := tk }) :
    wpAny (model prog w) A (call (.builtin "re.Pattern.sub") [.ref pat, tv kind rp u, tv kind x t]) Q E s := by
  have hk1 : kind = 0 ∨ kind = 1 := hk.elim .inl fun h => .inr h.1
  have hk2 : kind = 0 ∨ (kind = 1 ∧ below x) := hk.elim .inl fun h => .inr ⟨h.1, h.2.1⟩
  obtain ⟨o, fs, ct, oc, items, c, h1, h2, h3, h4, h5, h6, h7, h8, h9, h10, h11⟩ := hp.at'
  refine wp_check FR.slot_sub ⟨o, h1, h2⟩ FR.entry_sub (FR.args_sub _ _ _) ?_
  unfold Builtin.«re.Pattern.sub» reSubstitute
  dsimp only
  refine wpAny_bind (wpAny_of_eq (named_sub _ _) ?_)
  dsimp only
  refine wpAny_bind (wpAny_pure ?_)
  refine wpAny_bind (wpAny_of_eq (nocall hk1) ?_)
  dsimp only [Option.isSome_none]
  refine wpAny_ite ?_
  rw [if_neg Bool.false_ne_true]
  have fin : ∀ {α : Type} {f : Bool → Sem Fin} {lit : Bool}, lit = true → wpAny (model prog w) A.in1 (f true) (fun fin s' => match fin with
      | .done f => (match (Except.ok f : Result) with | .ok (.ret v) => Q v s' | .ok _ => False | .error e => E e s')
      | .again c' => c'.quiet = true ∧ codeAny (model prog w) A c' (fun r s' => match r with | .ok (.ret v) => Q v s' | .ok _ => False | .error e => E e s') s') E s →
      wpAny (model prog w) A.in1 (do let literal ← pure lit; f literal) (fun fin s' => match fin with
      | .done f => (match (Except.ok f : Result) with | .ok (.ret v) => Q v s' | .ok _ => False | .error e => E e s')
      | .again c' => c'.quiet = true ∧ codeAny (model prog w) A c' (fun r s' => match r with | .ok (.ret v) => Q v s' | .ok _ => False | .error e => E e s') s') E s := by
    intro α f lit hl hf
    subst hl
    exact wpAny_bind (wpAny_pure hf)
  have pick : ∀ {P : Sem (Option Str)} {r : Option Str} {f : Option Str → Sem Fin} {Q' : Fin → Shared → Prop}, P = pure r → wpAny (model prog w) A.in1 (f r) Q' E s → wpAny (model prog w) A.in1 (P >>= f) Q' E s := by
    intro P r f Q' hP hf
    rw [hP]
    exact wpAny_bind (wpAny_pure hf)
  have last : wpAny (model prog w) A.in1 (do
      let _ ← holding [tv kind rp u] (reWholeTarget (Value.ref pat) (tv kind x t))
      let l ← newList []
      again (Code.builtin "re.Pattern.sub.loop" { pos := [Value.ref pat, tv kind x t, tv kind rp u, rawInt 0, rawInt 0, rawInt 0, rawInt 0, rawInt 0, Value.bool false, l, Value.bool false] })) (fun fin s' => match fin with
      | .done f => (match (Except.ok f : Result) with | .ok (.ret v) => Q v s' | .ok _ => False | .error e => E e s')
      | .again c' => c'.quiet = true ∧ codeAny (model prog w) A c' (fun r s' => match r with | .ok (.ret v) => Q v s' | .ok _ => False | .error e => E e s') s') E s := by
    refine wpAny_bind (wpAny_holding (whole_target hp hk2 ?_))
    refine wpAny_bind (wpAny_newObj_type ?_)
    have hlt : pat < s.heap.objs.size := Heap.lt_size h1
    refine wpAny_pure ⟨plainId_quiet FR.plain_sub_loop _, ?_⟩
    refine sub_loop (P := s.heap.objs.size) hk2 hJ hz hrp hN (Nat.ne_of_gt hlt) hs hsub _ [] 0 0 (Nat.zero_le _) (hp.keeps fun o c hh => Heap.get?_push_of_some _ hh.1) (Heap.get?_push_size _ rfl) (Nat.zero_le _) (Nat.zero_le _) ?_
    intro h' tk t' hkeep
    have := h h' tk t' fun b o e => hkeep b o (Nat.ne_of_lt (Heap.lt_size e)) (Heap.get?_push_of_some _ e)
    have e0 : (cat []).toArray ++ out = out := by simp [cat]
    rw [e0]
    exact this
  rcases hk1 with rfl | rfl
  · refine pick (r := some ⟨rp⟩) rfl ?_
    dsimp only
    refine wpAny_bind (wpAny_pure ?_)
    refine wp_neg Bool.false_ne_true ?_
    refine wp_pos (by rw [h92]; rfl) ?_
    exact wpAny_bind (wpAny_pure last)
  · refine pick (r := none) rfl ?_
    dsimp only
    refine wpAny_bind (wpAny_of_eq KBy.quiet_eq ?_)
    dsimp only
    refine wpAny_bind (wpAny_pure ?_)
    refine wp_neg Bool.false_ne_true ?_
    refine wp_pos (by rw [h92']; rfl) ?_
    exact wpAny_bind (wpAny_pure last)

theorem join_str : JoinsTo 0 := by
  intro prog w A E s P o ps c t Q hP hc hd hne hl hcat hQ
  have e : (pv 0 ps) = strValues (ps.map fun p => ((⟨p.1⟩ : Str), p.2)) := by
    unfold pv strValues
    rw [List.map_map]
    rfl
  have hlist : s.heap.IsList P (strValues (ps.map fun p => ((⟨p.1⟩ : Str), p.2))).toArray := ⟨o, hP, hc, c, by rw [← e]; exact hd⟩
  show wpAny (model prog w) A (call (.builtin "str.join") [.str ⟨#[]⟩ t, .ref P]) Q E s
  have total : ((ps.map fun p => ((⟨p.1⟩ : Str), p.2)).map (·.1)).toArray.foldl (fun a p => a + p.length + (⟨#[]⟩ : Str).length) 0 = (cat ps).length := by
    rw [StrLaws.joinTotal]
    simp only [List.map_map, cat]
    have : (⟨#[]⟩ : Str).length = 0 := rfl
    rw [this, Nat.mul_zero, Nat.add_zero]
    clear hP hc hd hne hl hcat hQ hlist e
    induction ps with
    | nil => rfl
    | cons p r ih =>
      rw [List.map_cons, List.sum_cons, ih, List.flatMap_cons, List.length_append]
      rfl
  refine SC.join hlist rfl ?_ fun t' k => ?_
  · unfold PySem.JoinOk
    rw [total, Bool.not_eq_true']
    unfold Builtin.Str.tooLong
    exact decide_eq_false (by omega)
  · have e2 : Txt.join ⟨#[]⟩ ((ps.map fun p => ((⟨p.1⟩ : Str), p.2)).map (·.1)) = ⟨(cat ps).toArray⟩ := by
      clear hP hc hd hl hcat hQ hlist e total
      unfold Txt.join Builtin.Str.glued
      congr 1
      have key : ∀ (l : List (Array Nat × Tok)) (acc : Array Nat), List.foldl (fun (acc : Array Nat) (p : Str) => acc ++ #[] ++ p.cps) acc ((l.map fun p => ((⟨p.1⟩ : Str), p.2)).map (·.1)) = acc ++ (cat l).toArray := by
        intro l
        induction l with
        | nil => intro acc; simp [cat]
        | cons p r ih =>
          intro acc
          rw [List.map_cons, List.map_cons, List.foldl_cons, ih]
          apply Array.ext'
          simp [cat]
      cases ps with
      | nil => exact absurd rfl hne
      | cons p r =>
        have := key r p.1
        refine Eq.trans this ?_
        apply Array.ext'
        simp [cat]
    rw [e2]
    exact hQ t' k

theorem wp_forIn_range {M : Model} {A : Around} {E : Value → Shared → Prop} {s : Shared} {β : Type} {n : Nat} {f : Nat → β → Sem (ForInStep β)} (I : Nat → β) {Q : β → Shared → Prop}
    (hstep : ∀ i, i < n → ∀ (Q' : ForInStep β → Shared → Prop), Q' (.yield (I (i + 1))) s → wpAny M A (f i (I i)) Q' E s) (h : Q (I n) s) : wpAny M A (forIn [:n] (I 0) f) Q E s := by
  rw [Std.Legacy.Range.forIn_eq_forIn_range']
  have key : ∀ k i, i + k = n → wpAny M A (forIn (List.range' i k) (I i) f) Q E s := by
    intro k
    induction k with
    | zero => intro i hi; have : i = n := by omega
              subst this; exact wpAny_pure h
    | succ k ih =>
      intro i hi
      rw [List.range'_succ, List.forIn_cons]
      exact wpAny_bind (hstep i (by omega) _ (ih (i + 1) (by omega)))
  have : ([:n] : Std.Legacy.Range).size = n := by simp [Std.Legacy.Range.size]
  rw [this]
  exact key n 0 (by omega)

theorem buffer_full {b : Array UInt8} {t : Tok} {id : String} {full : Bool} : Builtin.Bytes.buffer? id (.bytes b t) full = pure (some b) := by
  unfold Builtin.Bytes.buffer?
  rw [KBy.special_eq KBy.look_buffer, KBy.own_buffer, KBy.own_release]
  kernel_rfl
theorem take_eq {b : Array UInt8} {t : Tok} {id : String} : Builtin.Bytes.takeBufferQuiet? id (.bytes b t) 0 = pure (some (b, none)) := by
  unfold Builtin.Bytes.takeBufferQuiet? Builtin.Bytes.takeBuffer?
  rw [KBy.special_eq KBy.look_buffer, KBy.own_buffer, buffer_full]
  kernel_rfl

theorem heap_not (l : List (Array Nat × Tok)) : (Builtin.Bytes.Kind.bytes == Builtin.Bytes.Kind.bytearray || (l.map fun p => (tv 1 p.1 p.2, (none : Option Value))).any fun x => x.1.onHeap) = false := by
  have : (l.map fun p => (tv 1 p.1 p.2, (none : Option Value))).any (fun x => x.1.onHeap) = false := by
    induction l with
    | nil => rfl
    | cons p r ih => rw [List.map_cons, List.any_cons, ih]; rfl
  rw [this]
  rfl
theorem let_all {M : Model} {A : Around} {E : Value → Shared → Prop} {s : Shared} {keep : List Value} {Q : Unit → Shared → Prop} (h : Q () s) : ∀ l : List (Array Nat × Tok), wpAny M A (Builtin.Bytes.joinLetGo (l.map fun p => (tv 1 p.1 p.2, (none : Option Value))) keep) Q E s := by
  intro l
  induction l with
  | nil => exact wpAny_pure h
  | cons p r ih =>
    rw [List.map_cons]
    unfold Builtin.Bytes.joinLetGo
    dsimp only
    exact wpAny_bind (wpAny_letGo ih)
theorem joined_is (l : List (Array Nat × Tok)) : Builtin.Bytes.joined #[] (l.map fun p => p.1.map (·.toUInt8)) = (cat l).toArray.map (·.toUInt8) := by
  have key : ∀ (l : List (Array Nat × Tok)) (k : Nat) (acc : Array UInt8), ((l.map fun p => p.1.map (·.toUInt8)).zipIdx k).foldl (fun out (p : Array UInt8 × Nat) => (if p.2 > 0 then out ++ #[] else out) ++ p.1) acc = acc ++ (cat l).toArray.map (·.toUInt8) := by
    intro l
    induction l with
    | nil => intro k acc; simp [cat]
    | cons p r ih =>
      intro k acc
      rw [List.map_cons, List.zipIdx_cons, List.foldl_cons, ih]
      apply Array.ext'
      simp only [Array.append_empty, ite_self]
      simp [cat]
  unfold Builtin.Bytes.joined
  have := key l 0 #[]
  refine Eq.trans this ?_
  simp
theorem sizes_is (l : List (Array Nat × Tok)) : ∀ k, (l.map fun p => p.1.map (·.toUInt8)).toArray.foldl (fun n (p : Array UInt8) => n + p.size) k = k + (cat l).length := by
  induction l with
  | nil => intro k; rfl
  | cons p r ih =>
    intro k
    have := ih (k + p.1.size)
    simp only [List.foldl_toArray'] at this ⊢
    simp only [List.map_cons, List.foldl_cons, Array.size_map] at this ⊢
    simp [cat] at this ⊢
    omega

theorem join_bytes : JoinsTo 1 := by
  intro prog w A E s P o ps c t Q hP hc hd hne hl hcat hQ
  have et : tv 1 #[] t = .bytes #[] t := by simp [tv]
  rw [et]
  show wpAny (model prog w) A (call (.builtin "bytes.join") [.bytes #[] t, .ref P]) Q E s
  refine wp_check FR.slot_bytes_join rfl FR.entry_bytes_join (FR.args_bytes_join _ _) ?_
  unfold Builtin.«bytes.join» Builtin.Bytes.joinM
  dsimp only
  refine wpAny_bind (wpAny_of_eq (a := (Value.bytes #[] t, Value.ref P)) rfl ?_)
  refine wp_pos (by decide) ?_
  dsimp only
  refine wpAny_bind (m := Builtin.Bytes.joinItems (.ref P)) ?_
  unfold Builtin.Bytes.joinItems
  refine wpAny_bind (wpAny_typeOf (T := "list") ⟨o, hP, hc⟩ ?_)
  refine wp_pos (by decide) (wpAny_pure ?_)
  refine wpAny_bind (wpAny_seqItems hP hd ?_)
  dsimp only
  refine wp_pos (by decide) ?_
  match ps, hne with
  | [p], _ =>
    show wpAny _ _ (typeOf (tv 1 p.1 p.2) >>= _) _ _ _
    refine wpAny_bind (wpAny_typeOf (T := "bytes") rfl ?_)
    refine wp_pos (by decide) (wpAny_bind (wpAny_rule (wpAny_pure ?_)))
    have := hQ p.2 s.toks
    have e : (cat [p]).toArray = p.1 := by simp [cat]
    rw [e] at this
    exact this
  | p :: q :: r, _ =>
    have hget : ∀ i, i < (p :: q :: r).length → ∃ p', (p :: q :: r)[i]? = some p' := fun i hi => ⟨(p :: q :: r)[i], List.getElem?_eq_getElem hi⟩
    show wpAny _ _ ((forIn [:(pv 1 (p :: q :: r)).toArray.size] (#[], []) _ : Sem (Array (Array UInt8) × List (Value × Option Value))) >>= _) _ _ _
    generalize p :: q :: r = ps at *
    refine wpAny_bind ?_
    have hsz : (pv 1 ps).toArray.size = ps.length := by simp [pv]
    refine wp_forIn_range (I := fun i => ((((ps.take i).map fun p => p.1.map (·.toUInt8)).toArray : Array (Array UInt8)), (ps.take i).map fun p => (tv 1 p.1 p.2, (none : Option Value)))) ?_ ?_
    · intro i hi Q' hQ'
      rw [hsz] at hi
      obtain ⟨p', hp'⟩ := hget i hi
      have hx : (pv 1 ps).toArray.getD i Value.none = tv 1 p'.1 p'.2 := by
        simp [pv, Array.getD, hi]
        have := List.getElem?_eq_getElem hi
        rw [hp'] at this
        rw [← Option.some.inj this]
      refine wpAny_bind (wpAny_seqItems hP hd ?_)
      dsimp only
      rw [hx]
      refine wp_neg ?_ ?_
      · rw [heap_not]
        exact Bool.false_ne_true
      refine wpAny_bind (wpAny_holding (wpAny_of_eq take_eq ?_))
      dsimp only
      refine wpAny_bind (wpAny_seqItems hP hd ?_)
      dsimp only
      refine wp_neg (by simp) (wpAny_pure ?_)
      have e1 : (ps.take (i + 1)) = ps.take i ++ [p'] := by rw [List.take_add_one, hp']; rfl
      rw [e1] at hQ'
      simp only [List.map_append, List.map_cons, List.map_nil] at hQ'
      rw [List.push_toArray]
      exact hQ'
    · refine wpAny_bind (wpAny_of_eq (a := #[]) rfl ?_)
      rw [hsz, List.take_length]
      refine wp_neg ?_ ?_
      · dsimp only
        rw [show (#[] : Array UInt8).size = 0 from rfl, Nat.zero_mul, sizes_is, Nat.zero_add]
        unfold Builtin.Bytes.tooLong
        rw [decide_eq_false (by omega)]
        exact Bool.false_ne_true
      · dsimp only
        rw [joined_is]
        refine wpAny_bind (wpAny_mkBytes ?_ (by simp only [Array.size_map, List.size_toArray]; omega))
        refine wpAny_bind (wpAny_holding (wpAny_point ?_))
        refine wpAny_bind (let_all ?_ _)
        exact wpAny_pure (hQ _ _)
end Mine
end
section
set_option maxRecDepth 100000
namespace Mine
open PySem PySem.Sre

def bolP (p : Option Nat) : Bool := p == none || p == some 10
def quoteL : Option Nat → List Nat → List Nat
  | _, [] => []
  | p, c :: r => if c = 46 ∧ bolP p = true then 46 :: 46 :: quoteL (some 46) r else c :: quoteL (some c) r
def fixL : Option Nat → List Nat → List Nat
  | _, [] => []
  | p, c :: r => if c = 13 then 13 :: 10 :: fixL (some 13) r else if c = 10 then (if p = some 13 then fixL (some 10) r else 13 :: 10 :: fixL (some 10) r) else c :: fixL (some c) r
def dueL (e l : Nat) (mk : Bool) : Option Nat → List Nat → List Nat
  | _, [] => []
  | p, c :: r =>
    if c = 46 ∧ bolP p = true then List.replicate (1 + e + l) 46 ++ dueL e l mk (some c) r
    else if c = 46 ∧ p = some 13 then List.replicate (1 + l) 46 ++ dueL e l mk (some c) r
    else if mk = false ∨ (c ≠ 13 ∧ c ≠ 10) then c :: dueL e l mk (some c) r
    else if c = 13 ∨ p ≠ some 13 then 13 :: 10 :: dueL e l mk (some c) r
    else dueL e l mk (some c) r

theorem due_start (p : Option Nat) (x : List Nat) : dueL 0 0 false p x = x := by
  induction x generalizing p with
  | nil => rfl
  | cons c r ih =>
    unfold dueL
    simp only [ih]
    split
    · rename_i h; rw [h.1]; rfl
    · split
      · rename_i h; rw [h.1]; rfl
      · simp

theorem quote_rep (k : Nat) (y : List Nat) : quoteL (some 46) (List.replicate k 46 ++ y) = List.replicate k 46 ++ quoteL (some 46) y := by
  induction k with
  | zero => rfl
  | succ k ih =>
    rw [List.replicate_succ, List.cons_append, List.cons_append, ← ih]
    conv => lhs; unfold quoteL
    rw [if_neg (by intro h; exact absurd h.2 (by decide))]
theorem fix_rep (p : Option Nat) (k : Nat) (y : List Nat) : fixL p (List.replicate (1 + k) 46 ++ y) = List.replicate (1 + k) 46 ++ fixL (some 46) y := by
  induction k generalizing p with
  | zero =>
    show fixL p (46 :: y) = 46 :: fixL (some 46) y
    conv => lhs; unfold fixL
    rw [if_neg (by decide), if_neg (by decide)]
  | succ k ih =>
    have e : 1 + (k + 1) = (1 + k) + 1 := by omega
    rw [e, List.replicate_succ, List.cons_append, List.cons_append, ← ih (some 46)]
    conv => lhs; unfold fixL
    rw [if_neg (by decide), if_neg (by decide)]

theorem quote_early (e : Nat) (p : Option Nat) (x : List Nat) : quoteL p (dueL e 0 false p x) = dueL (e + 1) 0 false p x := by
  induction x generalizing p with
  | nil => rfl
  | cons c r ih =>
    unfold dueL
    by_cases h1 : c = 46 ∧ bolP p = true
    · rw [if_pos h1, if_pos h1]
      have q : 1 + e + 0 = e + 1 := by omega
      have q' : 1 + (e + 1) + 0 = e + 1 + 1 := by omega
      rw [q, q', List.replicate_succ, List.cons_append]
      conv => lhs; unfold quoteL
      rw [if_pos ⟨rfl, h1.2⟩, quote_rep, h1.1, ih, List.replicate_succ, List.replicate_succ]
      rfl
    · rw [if_neg h1, if_neg h1]
      by_cases h2 : c = 46 ∧ p = some 13
      · rw [if_pos h2, if_pos h2]
        show quoteL p (46 :: dueL e 0 false (some c) r) = 46 :: _
        conv => lhs; unfold quoteL
        rw [if_neg (by rw [h2.2]; decide), ← h2.1, ih]; rfl
      · rw [if_neg h2, if_neg h2, if_pos (.inl rfl), if_pos (.inl rfl)]
        conv => lhs; unfold quoteL
        rw [if_neg h1, ih]

theorem fix_early (e : Nat) (p : Option Nat) (x : List Nat) : fixL p (dueL e 0 false p x) = dueL e 0 true p x := by
  induction x generalizing p with
  | nil => rfl
  | cons c r ih =>
    unfold dueL
    by_cases h1 : c = 46 ∧ bolP p = true
    · rw [if_pos h1, if_pos h1, Nat.add_zero, fix_rep, h1.1, ih]
    · rw [if_neg h1, if_neg h1]
      by_cases h2 : c = 46 ∧ p = some 13
      · rw [if_pos h2, if_pos h2, fix_rep, h2.1, ih]
      · rw [if_neg h2, if_neg h2, if_pos (.inl rfl)]
        conv => lhs; unfold fixL
        by_cases h3 : c = 13
        · have hA : ¬ (true = false ∨ c ≠ 13 ∧ c ≠ 10) := by simp [h3]
          rw [if_pos h3, if_neg hA, if_pos (.inl h3), h3, ih]
        · rw [if_neg h3]
          by_cases h4 : c = 10
          · have hA : ¬ (true = false ∨ c ≠ 13 ∧ c ≠ 10) := by simp [h4]
            rw [if_pos h4, if_neg hA]
            by_cases h5 : p = some 13
            · have hB : ¬ (c = 13 ∨ p ≠ some 13) := by simp [h3, h5]
              rw [if_pos h5, if_neg hB, h4, ih]
            · have hB : (c = 13 ∨ p ≠ some 13) := .inr h5
              rw [if_neg h5, if_pos hB, h4, ih]
          · have hA : (true = false ∨ c ≠ 13 ∧ c ≠ 10) := .inr ⟨h3, h4⟩
            rw [if_neg h4, if_pos hA, ih]

/-- what stands before in a text whose line ends are made -/
def madeP (p : Option Nat) : Option Nat := if p = some 13 then some 10 else p
theorem madeP_of {c : Nat} (h : c ≠ 13) : madeP (some c) = some c := by unfold madeP; rw [if_neg (by simp [h])]

theorem quote_late (e l : Nat) (p : Option Nat) (x : List Nat) : quoteL (madeP p) (dueL e l true p x) = dueL e (l + 1) true p x := by
  induction x generalizing p with
  | nil => rfl
  | cons c r ih =>
    unfold dueL
    by_cases h1 : c = 46 ∧ bolP p = true
    · rw [if_pos h1, if_pos h1]
      have hb : bolP (madeP p) = true := by
        unfold madeP
        split
        · rfl
        · exact h1.2
      have q : 1 + e + l = (e + l) + 1 := by omega
      have q' : 1 + e + (l + 1) = (e + l) + 1 + 1 := by omega
      rw [q, q', List.replicate_succ, List.cons_append]
      conv => lhs; unfold quoteL
      have := ih (some 46)
      rw [madeP_of (by decide)] at this
      rw [if_pos ⟨rfl, hb⟩, quote_rep, h1.1, this, List.replicate_succ, List.replicate_succ]
      rfl
    · rw [if_neg h1, if_neg h1]
      by_cases h2 : c = 46 ∧ p = some 13
      · rw [if_pos h2, if_pos h2]
        have q : 1 + l = l + 1 := by omega
        have q' : 1 + (l + 1) = l + 1 + 1 := by omega
        rw [q, q', List.replicate_succ, List.cons_append]
        conv => lhs; unfold quoteL
        have := ih (some 46)
        rw [madeP_of (by decide)] at this
        rw [if_pos ⟨rfl, by rw [h2.2]; decide⟩, quote_rep, h2.1, this, List.replicate_succ, List.replicate_succ]
        rfl
      · rw [if_neg h2, if_neg h2]
        by_cases h3 : c = 13
        · have hA : ¬ (true = false ∨ c ≠ 13 ∧ c ≠ 10) := by simp [h3]
          have hB : (c = 13 ∨ p ≠ some 13) := .inl h3
          rw [if_neg hA, if_neg hA, if_pos hB, if_pos hB]
          conv => lhs; unfold quoteL
          rw [if_neg (fun h => absurd h.1 (by decide))]
          conv => lhs; unfold quoteL
          have := ih (some 13)
          rw [if_neg (by decide), h3]
          rw [show madeP (some 13) = some 10 from rfl] at this
          rw [this]
        · by_cases h4 : c = 10
          · have hA : ¬ (true = false ∨ c ≠ 13 ∧ c ≠ 10) := by simp [h4]
            rw [if_neg hA, if_neg hA]
            by_cases h5 : p = some 13
            · have hB : ¬ (c = 13 ∨ p ≠ some 13) := by simp [h3, h5]
              rw [if_neg hB, if_neg hB, h4]
              have := ih (some 10)
              rw [h5]
              exact this
            · have hB : (c = 13 ∨ p ≠ some 13) := .inr h5
              rw [if_pos hB, if_pos hB, h4]
              conv => lhs; unfold quoteL
              rw [if_neg (fun h => absurd h.1 (by decide))]
              conv => lhs; unfold quoteL
              rw [if_neg (by decide)]
              have := ih (some 10)
              rw [madeP_of (by decide)] at this
              rw [this]
          · have hA : (true = false ∨ c ≠ 13 ∧ c ≠ 10) := .inr ⟨h3, h4⟩
            rw [if_pos hA, if_pos hA]
            conv => lhs; unfold quoteL
            have := ih (some c)
            rw [madeP_of h3] at this
            have hN : ¬ (c = 46 ∧ bolP (madeP p) = true) := by
              intro h
              unfold madeP at h
              split at h
              · rename_i h5; exact h2 ⟨h.1, h5⟩
              · exact h1 h
            rw [if_neg hN, this]

theorem fix_late (e l : Nat) (p : Option Nat) (x : List Nat) : fixL (madeP p) (dueL e l true p x) = dueL e l true p x := by
  induction x generalizing p with
  | nil => rfl
  | cons c r ih =>
    unfold dueL
    by_cases h1 : c = 46 ∧ bolP p = true
    · have := ih (some 46)
      rw [madeP_of (by decide)] at this
      rw [if_pos h1, Nat.add_assoc, fix_rep, h1.1, this]
    · rw [if_neg h1]
      by_cases h2 : c = 46 ∧ p = some 13
      · have := ih (some 46)
        rw [madeP_of (by decide)] at this
        rw [if_pos h2, fix_rep, h2.1, this]
      · rw [if_neg h2]
        by_cases h3 : c = 13
        · have hA : ¬ (true = false ∨ c ≠ 13 ∧ c ≠ 10) := by simp [h3]
          have hB : (c = 13 ∨ p ≠ some 13) := .inl h3
          rw [if_neg hA, if_pos hB]
          conv => lhs; unfold fixL
          rw [if_pos rfl]
          conv => lhs; unfold fixL
          have := ih (some 13)
          rw [if_neg (by decide), if_pos rfl, if_pos rfl, h3]
          rw [show madeP (some 13) = some 10 from rfl] at this
          rw [this]
        · by_cases h4 : c = 10
          · have hA : ¬ (true = false ∨ c ≠ 13 ∧ c ≠ 10) := by simp [h4]
            rw [if_neg hA]
            by_cases h5 : p = some 13
            · have hB : ¬ (c = 13 ∨ p ≠ some 13) := by simp [h3, h5]
              rw [if_neg hB, h4, h5]
              exact ih (some 10)
            · have hB : (c = 13 ∨ p ≠ some 13) := .inr h5
              rw [if_pos hB, h4]
              conv => lhs; unfold fixL
              rw [if_pos rfl]
              conv => lhs; unfold fixL
              rw [if_neg (by decide), if_pos rfl, if_pos rfl]
              have := ih (some 10)
              rw [madeP_of (by decide)] at this
              rw [this]
          · have hA : (true = false ∨ c ≠ 13 ∧ c ≠ 10) := .inr ⟨h3, h4⟩
            rw [if_pos hA]
            conv => lhs; unfold fixL
            have := ih (some c)
            rw [madeP_of h3] at this
            rw [if_neg h3, if_neg h4, this]

/-! the run of deeds -/
def doneL (d : Int) (x : List Nat) : List Nat := if d = 0 then quoteL none x else if d = 1 then fixL none x else quoteL none (fixL none x)
def earlyN : List Int → Nat
  | [] => 0
  | d :: r => if d = 0 then earlyN r + 1 else 0
def mkB (run : List Int) : Bool := run.any (· != 0)
def lateN (run : List Int) : Nat := ((run.drop (earlyN run)).filter (· != 1)).length
def dueRun (x : List Nat) (run : List Int) : List Nat := dueL (earlyN run) (lateN run) (mkB run) none x

theorem early_all {run : List Int} (h : mkB run = false) : earlyN run = run.length := by
  induction run with
  | nil => rfl
  | cons d r ih =>
    unfold mkB at h
    rw [List.any_cons, Bool.or_eq_false_iff] at h
    have h0 : d = 0 := by simpa using h.1
    unfold earlyN
    rw [if_pos h0, ih h.2]; rfl
theorem early_app {run : List Int} (h : mkB run = true) (d : Int) : earlyN (run ++ [d]) = earlyN run ∧ earlyN run ≤ run.length := by
  induction run with
  | nil => cases h
  | cons c r ih =>
    rw [List.cons_append]
    unfold earlyN
    by_cases hc : c = 0
    · rw [if_pos hc, if_pos hc]
      have : mkB r = true := by
        unfold mkB at h ⊢
        rw [List.any_cons] at h
        simpa [hc] using h
      have := ih this
      simp only [List.length_cons]
      omega
    · rw [if_neg hc, if_neg hc]; exact ⟨rfl, Nat.zero_le _⟩
theorem mk_app (run : List Int) (d : Int) : mkB (run ++ [d]) = (mkB run || d != 0) := by unfold mkB; rw [List.any_append]; simp
theorem early_app_no {run : List Int} (h : mkB run = false) (d : Int) : earlyN (run ++ [d]) = if d = 0 then run.length + 1 else run.length := by
  induction run with
  | nil => show earlyN [d] = _; unfold earlyN; split <;> rfl
  | cons c r ih =>
    unfold mkB at h
    rw [List.any_cons, Bool.or_eq_false_iff] at h
    have h0 : c = 0 := by simpa using h.1
    rw [List.cons_append]
    unfold earlyN
    rw [if_pos h0, ih h.2]
    split <;> rfl
theorem late_app {run : List Int} (h : mkB run = true) (d : Int) : lateN (run ++ [d]) = lateN run + if d = 1 then 0 else 1 := by
  obtain ⟨h1, h2⟩ := early_app h d
  unfold lateN
  rw [h1, List.drop_append_of_le_length h2, List.filter_append, List.length_append]
  congr 1
  by_cases hd : d = 1
  · rw [if_pos hd, hd]; rfl
  · rw [if_neg hd]; simp [hd]
theorem late_no {run : List Int} (h : mkB run = false) : lateN run = 0 := by unfold lateN; rw [early_all h, List.drop_length]; rfl
theorem late_app_no {run : List Int} (h : mkB run = false) {d : Int} (hd : d ≠ 0) : lateN (run ++ [d]) = if d = 1 then 0 else 1 := by
  unfold lateN
  rw [early_app_no h, if_neg hd, List.drop_append_of_le_length (Nat.le_refl _), List.drop_length, List.nil_append]
  by_cases h1 : d = 1
  · rw [if_pos h1, h1]; rfl
  · rw [if_neg h1]; simp [h1]

theorem done_due (x : List Nat) (run : List Int) (d : Int) (hd : 0 ≤ d ∧ d ≤ 2) : doneL d (dueRun x run) = dueRun x (run ++ [d]) := by
  unfold dueRun
  rw [mk_app]
  have hd3 : d = 0 ∨ d = 1 ∨ d = 2 := by omega
  cases hm : mkB run with
  | false =>
    rw [late_no hm, early_all hm, early_app_no hm, Bool.false_or]
    rcases hd3 with rfl | rfl | rfl
    · unfold doneL
      rw [if_pos rfl, if_pos rfl, quote_early]
      have hm' : mkB (run ++ [0]) = false := by rw [mk_app, hm]; rfl
      rw [late_no hm']
      rfl
    · rw [late_app_no hm (by decide)]
      unfold doneL
      rw [if_neg (by decide), if_pos rfl, fix_early]
      rfl
    · rw [late_app_no hm (by decide)]
      unfold doneL
      rw [if_neg (by decide), if_neg (by decide), fix_early]
      exact quote_late _ 0 none x
  | true =>
    rw [(early_app hm d).1, late_app hm, Bool.true_or]
    rcases hd3 with rfl | rfl | rfl
    · exact quote_late _ _ none x
    · exact fix_late _ _ none x
    · unfold doneL
      rw [if_neg (by decide), if_neg (by decide)]
      have := fix_late (earlyN run) (lateN run) none x
      rw [show madeP none = none from rfl] at this
      rw [this]
      exact quote_late _ _ none x

theorem due_nil (x : List Nat) : dueRun x [] = x := due_start none x

/-! sizes, signs -/
theorem quote_len (p : Option Nat) (x : List Nat) : (quoteL p x).length ≤ 2 * x.length := by
  induction x generalizing p with
  | nil => exact Nat.le_refl _
  | cons c r ih =>
    unfold quoteL
    split
    · have := ih (some 46); simp only [List.length_cons]; omega
    · have := ih (some c); simp only [List.length_cons]; omega
theorem fix_len (p : Option Nat) (x : List Nat) : (fixL p x).length ≤ 2 * x.length := by
  induction x generalizing p with
  | nil => exact Nat.le_refl _
  | cons c r ih =>
    unfold fixL
    have h13 := ih (some 13)
    have h10 := ih (some 10)
    have hc := ih (some c)
    (repeat' split) <;> simp only [List.length_cons] <;> omega
theorem quote_below {p : Option Nat} {x : List Nat} (h : ∀ c ∈ x, c < 256) : ∀ c ∈ quoteL p x, c < 256 := by
  induction x generalizing p with
  | nil => intro c hc; cases hc
  | cons d r ih =>
    have hr := fun q => ih (p := q) fun c hc => h c (List.mem_cons_of_mem _ hc)
    have hd := h d (List.mem_cons_self ..)
    unfold quoteL
    intro c hc
    split at hc
    · simp only [List.mem_cons] at hc
      rcases hc with rfl | rfl | hc
      · decide
      · decide
      · exact hr _ c hc
    · simp only [List.mem_cons] at hc
      rcases hc with rfl | hc
      · exact hd
      · exact hr _ c hc
theorem fix_below {p : Option Nat} {x : List Nat} (h : ∀ c ∈ x, c < 256) : ∀ c ∈ fixL p x, c < 256 := by
  induction x generalizing p with
  | nil => intro c hc; cases hc
  | cons d r ih =>
    have hr := fun q => ih (p := q) fun c hc => h c (List.mem_cons_of_mem _ hc)
    have hd := h d (List.mem_cons_self ..)
    unfold fixL
    intro c hc
    (repeat' split at hc) <;> (try simp only [List.mem_cons] at hc)
    · rcases hc with rfl | rfl | hc
      · decide
      · decide
      · exact hr _ c hc
    · exact hr _ c hc
    · rcases hc with rfl | rfl | hc
      · decide
      · decide
      · exact hr _ c hc
    · rcases hc with rfl | hc
      · exact hd
      · exact hr _ c hc
theorem done_below {d : Int} {x : List Nat} (h : ∀ c ∈ x, c < 256) : ∀ c ∈ doneL d x, c < 256 := by
  unfold doneL
  (repeat' split)
  · exact quote_below h
  · exact fix_below h
  · exact quote_below (fix_below h)
theorem done_len (d : Int) (x : List Nat) : (doneL d x).length ≤ 4 * x.length := by
  unfold doneL
  have h1 := quote_len none x
  have h2 := fix_len none x
  have h3 := quote_len none (fixL none x)
  (repeat' split) <;> omega
end Mine
end
section
set_option maxRecDepth 100000
namespace Mine
open PySem PySem.Sre

def prevAt (l : List Nat) (j : Nat) : Option Nat := if j = 0 then none else l[j - 1]?

theorem prevAt_succ {l : List Nat} {j : Nat} : prevAt l (j + 1) = l[j]? := rfl
theorem getD_of {tx : Array Nat} {i c : Nat} (h : tx.toList[i]? = some c) : tx.getD i 0 = c := by
  obtain ⟨l⟩ := tx
  simp only at h
  rw [Array.getD_eq_getD_getElem?]
  simp [h]
theorem bol_prev {tx : Array Nat} {j : Nat} (h : j ≤ tx.size) : bol tx j = bolP (prevAt tx.toList j) := by
  unfold bol prevAt bolP
  cases j with
  | zero => rfl
  | succ j =>
    have hj : j < tx.toList.length := by simp; omega
    have e : tx.toList[j]? = some tx.toList[j] := List.getElem?_eq_getElem hj
    rw [if_neg (by omega), Nat.add_sub_cancel, getD_of e, e]
    simp
theorem drop_at {l : List Nat} {j : Nat} (h : j < l.length) : ∃ c, l[j]? = some c ∧ l.drop j = c :: l.drop (j + 1) :=
  ⟨l[j], List.getElem?_eq_getElem h, List.drop_eq_getElem_cons h⟩

theorem quote_miss {tx : Array Nat} {j : Nat} (hj : j < tx.size) (h : hit1 tx j = false) :
    ∃ c, tx.toList.drop j = c :: tx.toList.drop (j + 1) ∧ quoteL (prevAt tx.toList j) (tx.toList.drop j) = c :: quoteL (prevAt tx.toList (j + 1)) (tx.toList.drop (j + 1)) := by
  obtain ⟨c, h1, h2⟩ := drop_at (l := tx.toList) (j := j) (by simpa using hj)
  refine ⟨c, h2, ?_⟩
  rw [h2, prevAt_succ, h1]
  conv => lhs; unfold quoteL
  unfold hit1 at h
  rw [bol_prev (by omega), decide_eq_true hj, Bool.true_and, getD_of h1] at h
  have hN : ¬ (c = 46 ∧ bolP (prevAt tx.toList j) = true) := by
    rintro ⟨rfl, hb⟩
    rw [hb] at h
    exact absurd h (by decide)
  rw [if_neg hN]
theorem quote_hit {tx : Array Nat} {j : Nat} (h : hit1 tx j = true) :
    j < tx.size ∧ quoteL (prevAt tx.toList j) (tx.toList.drop j) = 46 :: 46 :: quoteL (prevAt tx.toList (j + 1)) (tx.toList.drop (j + 1)) := by
  unfold hit1 at h
  simp only [Bool.and_eq_true, decide_eq_true_eq, beq_iff_eq] at h
  obtain ⟨hb, hj, hd⟩ := h
  obtain ⟨c, h1, h2⟩ := drop_at (l := tx.toList) (j := j) (by simpa using hj)
  rw [getD_of h1] at hd
  subst hd
  refine ⟨hj, ?_⟩
  rw [h2, prevAt_succ, h1]
  conv => lhs; unfold quoteL
  rw [bol_prev (by omega)] at hb
  rw [if_pos ⟨rfl, hb⟩]

theorem quote_run {tx : Array Nat} : ∀ (d j : Nat), j + d ≤ tx.size → (∀ i, j ≤ i → i < j + d → hit1 tx i = false) →
    quoteL (prevAt tx.toList j) (tx.toList.drop j) = (tx.toList.drop j).take d ++ quoteL (prevAt tx.toList (j + d)) (tx.toList.drop (j + d)) := by
  intro d
  induction d with
  | zero => intro j _ _; rfl
  | succ d ih =>
    intro j hj hm
    obtain ⟨c, h1, h2⟩ := quote_miss (by omega) (hm j (by omega) (by omega))
    rw [h2, h1, List.take_succ_cons, List.cons_append, ih (j + 1) (by omega) (fun i h1 h2 => hm i (by omega) (by omega))]
    have : j + 1 + d = j + (d + 1) := by omega
    rw [this]

theorem find1_some {tx : Array Nat} : ∀ (n s a b : Nat), find1 tx n s = some (a, b) → b = a + 1 ∧ s ≤ a ∧ hit1 tx a = true ∧ ∀ i, s ≤ i → i < a → hit1 tx i = false := by
  intro n
  induction n with
  | zero => intro s a b h; cases h
  | succ n ih =>
    intro s a b h
    unfold find1 at h
    cases hh : hit1 tx s with
    | true => rw [hh, if_pos rfl] at h; cases h; exact ⟨rfl, Nat.le_refl _, hh, fun i hi hia => by omega⟩
    | false =>
      rw [hh, if_neg Bool.false_ne_true] at h
      obtain ⟨q1, q2, q3, q4⟩ := ih _ _ _ h
      refine ⟨q1, by omega, q3, fun i hi hia => ?_⟩
      by_cases e : i = s
      · rw [e]; exact hh
      · exact q4 i (by omega) hia
theorem find1_none {tx : Array Nat} : ∀ (n s : Nat), tx.size - s ≤ n → find1 tx n s = none → ∀ i, s ≤ i → i < tx.size → hit1 tx i = false := by
  intro n
  induction n with
  | zero => intro s hn h i hi hl; omega
  | succ n ih =>
    intro s hn h i hi hl
    unfold find1 at h
    cases hh : hit1 tx s with
    | true => rw [hh, if_pos rfl] at h; cases h
    | false =>
      rw [hh, if_neg Bool.false_ne_true] at h
      by_cases e : i = s
      · rw [e]; exact hh
      · exact ih (s + 1) (by omega) h i (by omega) hl

theorem extract_is (tx : Array Nat) (j a : Nat) : tx.extract j a = ((tx.toList.drop j).take (a - j)).toArray := by
  apply Array.ext'
  simp
theorem sub1 (tx : Array Nat) : ∀ (k j : Nat), tx.size - j = k → j ≤ tx.size → SubTo (next1 tx) tx #[46, 46] j (quoteL (prevAt tx.toList j) (tx.toList.drop j)).toArray := by
  intro k
  induction k using Nat.strongRecOn with
  | ind k ih =>
    intro j hk hj
    cases hn : next1 tx j with
    | none =>
      have hm := find1_none (tx.size + 1 - j) j (by omega) hn
      have := quote_run (tx := tx) (tx.size - j) j (by omega) fun i h1 h2 => hm i h1 (by omega)
      have e : (quoteL (prevAt tx.toList j) (tx.toList.drop j)).toArray = tx.extract j tx.size := by
        rw [this, extract_is]
        have e2 : j + (tx.size - j) = tx.size := by omega
        have e3 : tx.toList.drop tx.size = [] := by rw [List.drop_eq_nil_iff]; simp
        rw [e2, e3]
        show ((tx.toList.drop j).take (tx.size - j) ++ []).toArray = _
        rw [List.append_nil]
      rw [e]
      exact .stop hn
    | some p =>
      obtain ⟨a, b⟩ := p
      obtain ⟨rfl, q2, q3, q4⟩ := find1_some _ _ _ _ hn
      obtain ⟨ha, hq⟩ := quote_hit q3
      have := quote_run (tx := tx) (a - j) j (by omega) fun i h1 h2 => q4 i h1 (by omega)
      have e2 : j + (a - j) = a := by omega
      rw [e2, hq] at this
      have e : (quoteL (prevAt tx.toList j) (tx.toList.drop j)).toArray = tx.extract j a ++ #[46, 46] ++ (quoteL (prevAt tx.toList (a + 1)) (tx.toList.drop (a + 1))).toArray := by
        rw [this, extract_is]
        apply Array.ext'
        simp
      rw [e]
      exact .more hn q2 (by omega) (by omega) (ih (tx.size - (a + 1)) (by omega) (a + 1) rfl (by omega))

theorem sub_quote (tx : Array Nat) : SubTo (next1 tx) tx #[46, 46] 0 (quoteL none tx.toList).toArray := by
  have := sub1 tx tx.size 0 (by omega) (by omega)
  simpa [prevAt] using this

/-! line ends -/
theorem is3_iff {tx : Array Nat} {i c : Nat} : is3 tx i c = true ↔ tx.toList[i]? = some c := by
  unfold is3
  by_cases h : i < tx.size
  · have e : tx.toList[i]? = some tx.toList[i] := List.getElem?_eq_getElem (by simpa using h)
    rw [decide_eq_true h, Bool.true_and, getD_of e, e]
    simp
  · rw [decide_eq_false h, Bool.false_and]
    have : tx.toList[i]? = none := List.getElem?_eq_none (by simp; omega)
    rw [this]
    simp

/-- fixing from j on, where no line's end is under way -/
def fixAt (tx : Array Nat) (j : Nat) : List Nat := fixL none (tx.toList.drop j)

theorem fix_prev {p q : Option Nat} {x : List Nat} (hp : p ≠ some 13) (hq : q ≠ some 13) : fixL p x = fixL q x := by
  cases x with
  | nil => rfl
  | cons c r =>
    unfold fixL
    rw [if_neg hp, if_neg hq]
theorem fix_prev13 {x : List Nat} (h : x.head? ≠ some 10) : fixL (some 13) x = fixL none x := by
  cases x with
  | nil => rfl
  | cons c r =>
    unfold fixL
    have : c ≠ 10 := by simpa using h
    rw [if_neg this, if_neg this]

theorem fix_miss {tx : Array Nat} {j : Nat} (hj : j < tx.size) (h : eol tx j = 0) :
    ∃ c, tx.toList.drop j = c :: tx.toList.drop (j + 1) ∧ fixAt tx j = c :: fixAt tx (j + 1) := by
  obtain ⟨c, h1, h2⟩ := drop_at (l := tx.toList) (j := j) (by simpa using hj)
  have hz := (eol_zero hj).mp h
  rw [getD_of h1, Bool.or_eq_false_iff] at hz
  have h10 : c ≠ 10 := by simpa using hz.1
  have h13 : c ≠ 13 := by simpa using hz.2
  refine ⟨c, h2, ?_⟩
  unfold fixAt
  rw [h2]
  conv => lhs; unfold fixL
  rw [if_neg h13, if_neg h10, fix_prev (p := some c) (q := none) (by simp [h13]) (by simp)]
theorem fix_hit {tx : Array Nat} {j : Nat} (hj : j < tx.size) (h : eol tx j ≠ 0) :
    j + eol tx j ≤ tx.size ∧ fixAt tx j = 13 :: 10 :: fixAt tx (j + eol tx j) := by
  obtain ⟨c, h1, h2⟩ := drop_at (l := tx.toList) (j := j) (by simpa using hj)
  unfold eol at h ⊢
  unfold fixAt
  rw [h2]
  by_cases h13 : is3 tx j 13 = true
  · have hc := is3_iff.mp h13
    rw [h1] at hc
    have hc := Option.some.inj hc
    subst hc
    rw [if_pos h13]
    by_cases h10 : is3 tx (j + 1) 10 = true
    · have hd := is3_iff.mp h10
      have hlt : j + 1 < tx.size := by
        have := (List.getElem?_eq_some_iff.mp hd).1
        simpa using this
      obtain ⟨c', h1', h2'⟩ := drop_at (l := tx.toList) (j := j + 1) (by simpa using hlt)
      rw [hd] at h1'
      have hc' := Option.some.inj h1'
      subst hc'
      rw [if_pos h10]
      refine ⟨by omega, ?_⟩
      rw [h2']
      conv => lhs; unfold fixL
      rw [if_pos rfl]
      conv => lhs; unfold fixL
      rw [if_neg (by decide), if_pos rfl, if_pos rfl, fix_prev (p := some 10) (q := none) (by simp) (by simp)]
    · rw [if_neg h10]
      refine ⟨by omega, ?_⟩
      conv => lhs; unfold fixL
      rw [if_pos rfl, fix_prev13]
      rw [List.head?_drop]
      exact fun e => h10 (is3_iff.mpr e)
  · rw [if_neg h13] at h ⊢
    by_cases h10 : is3 tx j 10 = true
    · have hc := is3_iff.mp h10
      rw [h1] at hc
      have hc := Option.some.inj hc
      subst hc
      rw [if_pos h10]
      refine ⟨by omega, ?_⟩
      conv => lhs; unfold fixL
      rw [if_neg (by decide), if_pos rfl, if_neg (by simp), fix_prev (p := some 10) (q := none) (by simp) (by simp)]
    · rw [if_neg h10] at h
      exact absurd rfl h

theorem fix_run {tx : Array Nat} : ∀ (d j : Nat), j + d ≤ tx.size → (∀ i, j ≤ i → i < j + d → eol tx i = 0) → fixAt tx j = (tx.toList.drop j).take d ++ fixAt tx (j + d) := by
  intro d
  induction d with
  | zero => intro j _ _; rfl
  | succ d ih =>
    intro j hj hm
    obtain ⟨c, h1, h2⟩ := fix_miss (by omega) (hm j (by omega) (by omega))
    rw [h2, h1, List.take_succ_cons, List.cons_append, ih (j + 1) (by omega) (fun i h1 h2 => hm i (by omega) (by omega))]
    have : j + 1 + d = j + (d + 1) := by omega
    rw [this]

theorem sub3 (tx : Array Nat) : ∀ (k j : Nat), tx.size - j = k → j ≤ tx.size → SubTo (next3 tx) tx #[13, 10] j (fixAt tx j).toArray := by
  intro k
  induction k using Nat.strongRecOn with
  | ind k ih =>
    intro j hk hj
    cases hn : next3 tx j with
    | none =>
      have hm := find3_none (tx.size + 1 - j) j (by omega) hn
      have := fix_run (tx := tx) (tx.size - j) j (by omega) fun i h1 h2 => hm i h1 (by omega)
      have e : (fixAt tx j).toArray = tx.extract j tx.size := by
        rw [this, extract_is]
        have e2 : j + (tx.size - j) = tx.size := by omega
        have e3 : tx.toList.drop tx.size = [] := by rw [List.drop_eq_nil_iff]; simp
        unfold fixAt
        rw [e2, e3]
        show ((tx.toList.drop j).take (tx.size - j) ++ []).toArray = _
        rw [List.append_nil]
      rw [e]
      exact .stop hn
    | some p =>
      obtain ⟨a, b⟩ := p
      obtain ⟨q1, rfl, q3, q4, q5⟩ := find3_some _ _ _ _ hn
      obtain ⟨hb, hq⟩ := fix_hit q4 q1
      have := fix_run (tx := tx) (a - j) j (by omega) fun i h1 h2 => q5 i h1 (by omega)
      have e2 : j + (a - j) = a := by omega
      rw [e2, hq] at this
      have e : (fixAt tx j).toArray = tx.extract j a ++ #[13, 10] ++ (fixAt tx (a + eol tx a)).toArray := by
        rw [this, extract_is]
        apply Array.ext'
        simp
      rw [e]
      exact .more hn q3 (by omega) hb (ih (tx.size - (a + eol tx a)) (by omega) (a + eol tx a) rfl hb)

theorem sub_fix (tx : Array Nat) : SubTo (next3 tx) tx #[13, 10] 0 (fixL none tx.toList).toArray := by
  have := sub3 tx tx.size 0 (by omega) (by omega)
  simpa [fixAt] using this
end Mine
end
section
open PySem PySem.W PyProof.Rows
set_option maxRecDepth 100000
set_option maxHeartbeats 8000000
namespace Mine
open PySem PySem.Sre PySem.Builtin.Re

noncomputable abbrev LS : List Str := looseW hd.view_39 [Str.ofString "_twin_re_1", Str.ofString "_twin_re_2", Str.ofString "_twin_re_3"]

theorem pat36 {P : Params} {h : Heap} (X : (hd.heap_39 P).In h) : PatAt h 36 c1 0 :=
  ⟨_, _, _, _, _, _, X 36 _ rfl, rfl, rfl, rfl, rfl, rfl, rfl, X 35 _ rfl, rfl, by decide +kernel, rfl⟩
theorem pat41 {P : Params} {h : Heap} (X : (hd.heap_39 P).In h) : PatAt h 41 c1 1 :=
  ⟨_, _, _, _, _, _, X 41 _ rfl, rfl, rfl, rfl, rfl, rfl, rfl, X 40 _ rfl, rfl, by decide +kernel, rfl⟩
theorem pat46 {P : Params} {h : Heap} (X : (hd.heap_39 P).In h) : PatAt h 46 c3 0 :=
  ⟨_, _, _, _, _, _, X 46 _ rfl, rfl, rfl, rfl, rfl, rfl, rfl, X 45 _ rfl, rfl, by decide +kernel, rfl⟩

theorem fr_more {h₀ h h' : Heap} {L : Addr} {m : Str → Option Value} (F : Fr h₀ L h m) (k : ∀ b o, h.get? b = some o → h'.get? b = some o) : Fr h₀ L h' m := by
  obtain ⟨oL, a1, a2, hL, a3⟩ := F.ns
  exact ⟨⟨oL, a1, a2, k _ _ hL, a3⟩, fun b o e => k _ _ (F.keep b o e), F.above⟩
theorem news_more {h₀ h h' : Heap} {L : Addr} {news : List (Addr × Obj)} (N : News h₀ L h news) (k : ∀ b o, h.get? b = some o → h'.get? b = some o) : News h₀ L h' news :=
  fun p hp => ⟨k _ _ (N p hp).1, (N p hp).2⟩

section
variable {prog : Program} {w : World} {A : Around} {E : Value → Shared → Prop} {s : Shared} {h₀ : Heap} {L : Addr} {m : Str → Option Value} {news : List (Addr × Obj)} {P : Params}
theorem method_sub {pat : Addr} {code : Array Nat} {kind : Nat} {pl : Sem Bool} {Q : Value × List Value → Shared → Prop} (p : PatAt s.heap pat code kind) (h : Q (.builtin "re.Pattern.sub", [.ref pat]) s) : wpAny (model prog w) A (getMethod (.ref pat) (Str.ofString "sub") pl) Q E s := by
  obtain ⟨o, fs, ct, oc, items, c, h1, h2, h3, h4, h5, h6, h7, h8, h9, h10, h11⟩ := p.at'
  exact getMethod_builtin (T := "re.Pattern") ⟨o, h1, h2⟩ FR.plain_attrs FR.slot_sub FR.type_sub (fun a e => ⟨o, by cases e; exact h1, h3⟩) h
theorem meth36 {pl : Sem Bool} {Q : Value × List Value → Shared → Prop} (F : Fr h₀ L s.heap m) (X : (hd.heap_39 P).In h₀) (h : Q (.builtin "re.Pattern.sub", [.ref 36]) s) : wpAny (model prog w) A (getMethod (.ref 36) (Str.ofString "sub") pl) Q E s := method_sub (pat36 (X.keeps F.keep)) h
theorem meth41 {pl : Sem Bool} {Q : Value × List Value → Shared → Prop} (F : Fr h₀ L s.heap m) (X : (hd.heap_39 P).In h₀) (h : Q (.builtin "re.Pattern.sub", [.ref 41]) s) : wpAny (model prog w) A (getMethod (.ref 41) (Str.ofString "sub") pl) Q E s := method_sub (pat41 (X.keeps F.keep)) h
theorem meth46 {pl : Sem Bool} {Q : Value × List Value → Shared → Prop} (F : Fr h₀ L s.heap m) (X : (hd.heap_39 P).In h₀) (h : Q (.builtin "re.Pattern.sub", [.ref 46]) s) : wpAny (model prog w) A (getMethod (.ref 46) (Str.ofString "sub") pl) Q E s := method_sub (pat46 (X.keeps F.keep)) h

def quoteS (x : Str) : Str := ⟨(quoteL none x.cps.toList).toArray⟩
def fixS (x : Str) : Str := ⟨(fixL none x.cps.toList).toArray⟩

theorem call46 {x : Str} {t u : Tok} {Q : Value → Shared → Prop} (F : Fr h₀ L s.heap m) (N : News h₀ L s.heap news) (X : (hd.heap_39 P).In h₀) (hx : x.length ≤ 2 ^ 20)
    (h : ∀ t' h' tk, Fr h₀ L h' m → News h₀ L h' news → Q (.str (fixS x) t') { s with heap := h', toks := tk }) :
    wpAny (model prog w) A (call (.builtin "re.Pattern.sub") [.ref 46, .str (Str.ofString "\r\n") u, .str x t]) Q E s := by
  have e : (Str.ofString "\r\n") = ⟨#[13, 10]⟩ := by decide +kernel
  rw [e]
  exact sub_call (kind := 0) (x := x.cps) (rp := #[13, 10]) (.inl rfl) join_str hx (by decide +kernel) (by decide +kernel) (by decide +kernel) (by decide +kernel) (fun j hj => search3 x.cps j hj) (sub_fix x.cps) (pat46 (X.keeps F.keep)) fun h' tk t' k => h t' h' tk (fr_more F k) (news_more N k)
theorem call36 {x : Str} {t u : Tok} {Q : Value → Shared → Prop} (F : Fr h₀ L s.heap m) (N : News h₀ L s.heap news) (X : (hd.heap_39 P).In h₀) (hx : x.length ≤ 2 ^ 20)
    (h : ∀ t' h' tk, Fr h₀ L h' m → News h₀ L h' news → Q (.str (quoteS x) t') { s with heap := h', toks := tk }) :
    wpAny (model prog w) A (call (.builtin "re.Pattern.sub") [.ref 36, .str (Str.ofString "..") u, .str x t]) Q E s := by
  have e : (Str.ofString "..") = ⟨#[46, 46]⟩ := by decide +kernel
  rw [e]
  have hx' : x.cps.size ≤ 2 ^ 20 := hx
  exact sub_call (kind := 0) (x := x.cps) (rp := #[46, 46]) (N := 5 * (x.cps.size + 2)) (.inl rfl) join_str hx (by decide +kernel) (by decide +kernel) (by decide +kernel) (by omega) (fun j hj => search1 x.cps j hj) (sub_quote x.cps) (pat36 (X.keeps F.keep)) fun h' tk t' k => h t' h' tk (fr_more F k) (news_more N k)

/-- the octets of a text -/
def octs (x : Str) : Array UInt8 := x.cps.map (·.toUInt8)
theorem call41 {x : Str} {t u : Tok} {Q : Value → Shared → Prop} (F : Fr h₀ L s.heap m) (N : News h₀ L s.heap news) (X : (hd.heap_39 P).In h₀) (hx : x.length ≤ 2 ^ 20) (hb : below x.cps)
    (h : ∀ t' h' tk, Fr h₀ L h' m → News h₀ L h' news → Q (.bytes (octs (quoteS x)) t') { s with heap := h', toks := tk }) :
    wpAny (model prog w) A (call (.builtin "re.Pattern.sub") [.ref 41, .bytes #[46, 46] u, .bytes (octs x) t]) Q E s := by
  have hx' : x.cps.size ≤ 2 ^ 20 := hx
  have e : (#[46, 46] : Array UInt8) = (#[46, 46] : Array Nat).map (·.toUInt8) := by decide +kernel
  rw [e]
  exact sub_call (kind := 1) (x := x.cps) (rp := #[46, 46]) (N := 5 * (x.cps.size + 2)) (.inr ⟨rfl, hb, by intro c hc; simp at hc; omega⟩) join_bytes hx (by decide +kernel) (by decide +kernel) (by decide +kernel) (by omega) (fun j hj => search1 x.cps j hj) (sub_quote x.cps) (pat41 (X.keeps F.keep)) fun h' tk t' k => h t' h' tk (fr_more F k) (news_more N k)
end
end Mine
end
namespace Mine
theorem calmW5 : True := by
  w_top off
  trivial
end Mine
section
open PySem PySem.W PyProof.Rows
set_option maxRecDepth 100000
set_option maxHeartbeats 8000000
namespace Mine
open PySem PySem.Sre PySem.Builtin.Re

theorem fixS_len (x : Str) : (fixS x).length ≤ 2 * x.length := by
  show (fixL none x.cps.toList).toArray.size ≤ 2 * x.cps.size
  have := fix_len none x.cps.toList
  simpa using this
theorem fix_fits {x : Str} (h : x.length ≤ 2 ^ 19) : (fixS x).length ≤ 2 ^ 20 := by
  have := fixS_len x
  omega
local macro_rules | `(tactic| walk_at "getMethod ref") => `(tactic| (k_here; (with_reducible show wpAny _ _ (getMethod (Value.ref _) (Str.ofString "sub") _) _ _ _); k_dflt (first
  | (refine' meth36 ?k1 ?k2 ?_; (case k1 => k_asm); (case k2 => k_asm); k_whole)
  | (refine' meth41 ?k1 ?k2 ?_; (case k1 => k_asm); (case k2 => k_asm); k_whole)
  | (refine' meth46 ?k1 ?k2 ?_; (case k1 => k_asm); (case k2 => k_asm); k_whole))))
local macro_rules | `(tactic| walk_at "call builtin:re.Pattern.sub") => `(tactic| (k_here; k_dflt (first
  | (refine' call36 ?k1 ?k2 ?k3 ?k4 ?_; (case k1 => k_asm); (case k2 => k_asm); (case k3 => k_asm); (case k4 => (first | assumption | omega | exact fix_fits (by assumption))); k_whole)
  | (refine' call41 ?k1 ?k2 ?k3 ?k4 ?k5 ?_; (case k1 => k_asm); (case k2 => k_asm); (case k3 => k_asm); (case k4 => (first | assumption | omega | exact fix_fits (by assumption))); (case k5 => assumption); k_whole)
  | (refine' call46 ?k1 ?k2 ?k3 ?k4 ?_; (case k1 => k_asm); (case k2 => k_asm); (case k3 => k_asm); (case k4 => (first | assumption | omega | exact fix_fits (by assumption))); k_whole)); intro t' h' tk' F' N'))

theorem fix_claim (w : World) (mean : ExcName → Option Value) (mg mb : Str → Option Value) (x : Str) (t0 : Tok) (news : List (Addr × Obj)) :
    CbClaim PySem.Challenge.rw_nb0382_01.row.prog w (hd.heap_39 w.params) hd.view_39 LS mean mg mb 67 news [] (x.length ≤ 2 ^ 19) [.str x t0] (fun t => .str (fixS x) t) := by
  k_fill
  dsimp only [CbClaim, CbLists, CbRet]; intros; rename_i hret
  refine wpAny_call ?_
  k_dflt cell_enter
  k_steps
  all_goals (refine hret _ _ _ ?_ ?_ <;> k_asm)

theorem quotedata_claim (w : World) (mean : ExcName → Option Value) (mg mb : Str → Option Value) (x : Str) (t0 : Tok) (news : List (Addr × Obj)) :
    CbClaim PySem.Challenge.rw_nb0382_01.row.prog w (hd.heap_39 w.params) hd.view_39 LS mean mg mb 53 news [] (x.length ≤ 2 ^ 19) [.str x t0] (fun t => .str (quoteS (fixS x)) t) := by
  k_fill
  dsimp only [CbClaim, CbLists, CbRet]; intros; rename_i hret
  refine wpAny_call ?_
  k_dflt cell_enter
  k_steps
  all_goals (refine hret _ _ _ ?_ ?_ <;> k_asm)

theorem periods_claim (w : World) (mean : ExcName → Option Value) (mg mb : Str → Option Value) (x : Str) (t0 : Tok) (news : List (Addr × Obj)) :
    CbClaim PySem.Challenge.rw_nb0382_01.row.prog w (hd.heap_39 w.params) hd.view_39 LS mean mg mb 60 news [] (x.length ≤ 2 ^ 19 ∧ below x.cps) [.bytes (octs x) t0] (fun t => .bytes (octs (quoteS x)) t) := by
  k_fill
  dsimp only [CbClaim, CbLists, CbRet]; intros; rename_i hpre _ _ hret
  obtain ⟨hp1, hp2⟩ := hpre
  refine wpAny_call ?_
  k_dflt cell_enter
  k_steps
  all_goals (refine hret _ _ _ ?_ ?_ <;> k_asm)
end Mine
end
section
open PySem PySem.W PyProof.Rows
set_option maxRecDepth 100000
set_option maxHeartbeats 8000000
namespace Mine
open PySem PySem.Sre PySem.Builtin.Re

/-- a contract with room for k frames -/
abbrev CcClaim (k : Nat) (prog : Program) (w : World) (K : Frag) (p : Program) (loose : List Str) (mean : ExcName → Option Value) (mg mb : Str → Option Value) (f : Addr) (news : List (Addr × Obj)) (pre : Prop) (vs : List Value) (R : Tok → Value) : Prop :=
  ∀ (dp un : Nat) (gd : Option (List Code)) (cn : Str) (cs : Scope) (a : Addr) (ccd : Value) (cl : List (Str × Addr)) (outer : List Env) (A₀ : Around) (base h₀ : Heap) (L : Addr) (m : Str → Option Value) (s : Shared) (Q E : Value → Shared → Prop),
    Below A₀ base outer h₀ → Fr h₀ L s.heap m → K.In h₀ → News h₀ L s.heap news → Top p loose mean mg mb h₀ → cs.kind = .function →
    pre → dp + k < recursionLimit → un + 8 * k < cLine → CbRet h₀ L m news s Q R →
      wpAny (model prog w) (ktrTop dp un gd cn cs L a ccd cl outer) (call (.ref f) vs) Q E s

section
variable {prog : Program} {w : World} {K : Frag} {p : Program} {loose : List Str} {mean : ExcName → Option Value} {mg mb : Str → Option Value} {f : Addr} {news : List (Addr × Obj)} {pre : Prop} {vs : List Value} {R : Tok → Value}
  {dp un : Nat} {gd : Option (List Code)} {cn : Str} {cs : Scope} {a : Addr} {ccd : Value} {cl : List (Str × Addr)} {outer : List Env} {A₀ : Around} {base h₀ : Heap} {L : Addr} {m : Str → Option Value} {s : Shared} {Q E : Value → Shared → Prop}
theorem cb_use (C : CbClaim prog w K p loose mean mg mb f news [] pre vs R)
    (B : Below A₀ base outer h₀) (F : Fr h₀ L s.heap m) (X : K.In h₀) (N : News h₀ L s.heap news) (T : Top p loose mean mg mb h₀) (hk : cs.kind = .function) (hp : pre) (hd : dp + 1 < recursionLimit) (hu : un + 8 < cLine)
    (ret : ∀ (t : Tok) (h' : Heap) (tk' : Nat), Fr h₀ L h' m → News h₀ L h' news → Q (R t) { s with heap := h', toks := tk' }) :
    wpAny (model prog w) (ktrTop dp un gd cn cs L a ccd cl outer) (call (.ref f) vs) Q E s :=
  C dp un gd cn cs a ccd cl outer A₀ base h₀ L m s Q E B F X N T hk hp hd hu ret
theorem cc_use {k : Nat} (C : CcClaim k prog w K p loose mean mg mb f news pre vs R)
    (B : Below A₀ base outer h₀) (F : Fr h₀ L s.heap m) (X : K.In h₀) (N : News h₀ L s.heap news) (T : Top p loose mean mg mb h₀) (hk : cs.kind = .function) (hp : pre) (hd : dp + k < recursionLimit) (hu : un + 8 * k < cLine)
    (ret : ∀ (t : Tok) (h' : Heap) (tk' : Nat), Fr h₀ L h' m → News h₀ L h' news → Q (R t) { s with heap := h', toks := tk' }) :
    wpAny (model prog w) (ktrTop dp un gd cn cs L a ccd cl outer) (call (.ref f) vs) Q E s :=
  C dp un gd cn cs a ccd cl outer A₀ base h₀ L m s Q E B F X N T hk hp hd hu ret
end

section
variable {prog : Program} {w : World} {A : Around} {E : Value → Shared → Prop} {s : Shared} {h₀ : Heap} {L : Addr} {m : Str → Option Value} {news : List (Addr × Obj)} {K : Frag}
  {p : Program} {loose : List Str} {mean : ExcName → Option Value} {mg mb : Str → Option Value} {env : Env}

theorem boot_name {M : Model} {x : Str} {pos : Pos} {v : Value} {Q : Value → Shared → Prop} (X : K.In h₀) (T : Top p loose mean mg mb h₀) (k : ∀ b o, h₀.get? b = some o → s.heap.get? b = some o)
    (hn : nsIn K mainGlobals x = some none) (hv : bootBuiltins x = some v) (hne : x ≠ "__name__") (h : Q v s) (hg : env.globals = mainGlobals) (hb : env.builtins = builtinsNs) (hk : env.scope.kind = .function) (hx : env.kindOf x = some .globalImplicit) (hd : (x == ("__debug__" : Str)) = false) :
    wpAny M A (eval (.Name x pos) env) Q E s :=
  Calls.Name_function_global hk hx (Calls.loadGlobal_builtin (by rw [hg]; exact T.g.keeps k) (mg_none_of X T.g hn) (by rw [hb]; exact T.b.keeps k) ((T.builtins x hne).trans hv) h) hd

abbrev ordScope : Scope := { kind := .function, names := [(Str.ofString ".0", .local), (Str.ofString "sign", .local), (Str.ofString "ord", .globalImplicit)], isGenerator := false, isCoroutine := false, more := [] }
abbrev chrScope : Scope := { kind := .function, names := [(Str.ofString ".0", .local), (Str.ofString "octet", .local), (Str.ofString "chr", .globalImplicit)], isGenerator := false, isCoroutine := false, more := [] }

theorem ord_leaf {PP : Params} {p1 p2 p3 : Pos} {C : Addr} {c : Nat} {u : Tok} {m₃ : Str → Option Value} {s₃ : Shared} {E' : Value → Shared → Prop} (X : (hd.heap_39 PP).In h₀) (T : Top p loose mean mg mb h₀) (k : ∀ b o, h₀.get? b = some o → s₃.heap.get? b = some o)
    (hg : env.globals = mainGlobals) (hb : env.builtins = builtinsNs) (hn : s₃.heap.Ns C m₃) (hm : m₃ (Str.ofString "sign") = some (.str ⟨#[c]⟩ u)) :
    wpAny (model prog w) A (eval (.Call (.Name (Str.ofString "ord") p1) [.Name (Str.ofString "sign") p2] [] p3) (compEnv ordScope C env)) (fun r s₄ => (∃ t, r = .int c t) ∧ Keeps s₃ s₄) E' s₃ := by
  refine Call_name1 rfl ?_
  refine boot_name (env := compEnv ordScope C env) X T k rfl boot_ord (by decide +kernel) ?_ hg hb rfl rfl (by decide)
  refine callWith_builtin1 ?_
  refine wpAny_Name (wpAny_loadName_local (env := compEnv ordScope C env) rfl rfl hn hm ?_) (by decide)
  refine P.ord_of_char ?_
  exact ⟨⟨_, rfl⟩, _, _, rfl, fun _ _ e => e⟩

theorem chr_leaf {PP : Params} {p1 p2 p3 : Pos} {C : Addr} {c : UInt8} {u : Tok} {m₃ : Str → Option Value} {s₃ : Shared} {E' : Value → Shared → Prop} (X : (hd.heap_39 PP).In h₀) (T : Top p loose mean mg mb h₀) (k : ∀ b o, h₀.get? b = some o → s₃.heap.get? b = some o)
    (hg : env.globals = mainGlobals) (hb : env.builtins = builtinsNs) (hn : s₃.heap.Ns C m₃) (hm : m₃ (Str.ofString "octet") = some (.int (c.toNat : Int) u)) :
    wpAny (model prog w) A (eval (.Call (.Name (Str.ofString "chr") p1) [.Name (Str.ofString "octet") p2] [] p3) (compEnv chrScope C env)) (fun r s₄ => (∃ t, r = .str ⟨#[c.toNat]⟩ t) ∧ Keeps s₃ s₄) E' s₃ := by
  refine Call_name1 rfl ?_
  refine boot_name (env := compEnv chrScope C env) X T k rfl boot_chr (by decide +kernel) ?_ hg hb rfl rfl (by decide)
  refine callWith_builtin1 ?_
  refine wpAny_Name (wpAny_loadName_local (env := compEnv chrScope C env) rfl rfl hn hm ?_) (by decide)
  have := c.toNat_lt
  refine chr_of_range (by omega) (by omega) ?_
  exact ⟨⟨_, rfl⟩, _, _, rfl, fun _ _ e => e⟩

def ordsOf (y : Str) : List Int := y.cps.toList.map fun (c : Nat) => (c : Int)

theorem paired_ords : ∀ (l : List Nat) (vs ys : List Value), vs.length = l.length → (∀ (j : Nat) (v : Value), vs[j]? = some v → ∃ (c : Nat) (u : Tok), l[j]? = some c ∧ v = Value.str ⟨#[c]⟩ u) →
    Paired (fun v r => ∃ (c : Nat) (u t : Tok), v = Value.str ⟨#[c]⟩ u ∧ r = Value.int c t) vs ys → IntsAre ys (l.map fun (c : Nat) => (c : Int)) := by
  intro l
  induction l with
  | nil =>
    intro vs ys hl hP hF
    cases vs with
    | nil => cases hF; exact .nil
    | cons v r => cases hl
  | cons c l ih =>
    intro vs ys hl hP hF
    cases vs with
    | nil => cases hl
    | cons v r =>
      cases hF with
      | cons hv hr =>
        obtain ⟨c', u', hc', hv'⟩ := hP 0 v rfl
        obtain ⟨c'', u, t, e1, e2⟩ := hv
        subst e2
        rw [hv'] at e1
        have ec : c' = c := (Option.some.inj hc').symm
        subst ec
        have : c'' = c' := by
          have h1 := (Value.str.inj e1).1
          have h2 := congrArg (fun z : Str => z.cps.getD 0 0) h1
          simpa using h2.symm
        subst this
        exact .cons _ _ (ih r _ (by simpa using hl) (fun j v hj => by simpa using hP (j + 1) v (by simpa using hj)) hr)

theorem ord_comp {PP : Params} {name z : Str} {fscope : Scope} {a : Addr} {cd : Value} {y : Str} {t : Tok} {p1 p2 p3 p4 p5 pos : Pos} {Q : Value → Shared → Prop} (hh : A.handled = none) (F : Fr h₀ L s.heap m) (N : News h₀ L s.heap news) (X : (hd.heap_39 PP).In h₀) (T : Top p loose mean mg mb h₀)
    (hz : m z = some (.str y t)) (hk : fscope.kind = .function) (hl : (envOf name fscope L a cd).kindOf z = some .local) (hd : (z == ("__debug__" : Str)) = false) (hsz : y.length ≤ sizeLine)
    (hQ : ∀ D vs n h' tk, Fr h₀ L h' m → News h₀ L h' ((D, W.listOf vs.toArray n) :: news) → IntsAre vs (ordsOf y) → Q (.ref D) { s with heap := h', toks := tk }) :
    wpAny (model prog w) A (eval (.ListComp (.Call (.Name (Str.ofString "ord") p1) [.Name (Str.ofString "sign") p2] [] p3) [⟨.Name (Str.ofString "sign") p4, .Name z p5, [], 0⟩] ordScope pos) (envOf name fscope L a cd)) Q E s := by
  refine wpAny_ListComp_walk (fun _ => true) (fun v r => ∃ (c : Nat) (u t : Tok), v = .str ⟨#[c]⟩ u ∧ r = .int c t) (by decide +kernel) (by decide +kernel) rfl (by decide +kernel) rfl ?_
  refine ld F hz ?_ hk hl hd
  refine wpAny_pyIter_str fun o St W hst => ?_
  have up : ∀ (h' : Heap), (∀ b o', b ∉ [s.heap.objs.size] → (s.heap.push o).get? b = some o' → h'.get? b = some o') → ∀ b o', s.heap.get? b = some o' → h'.get? b = some o' :=
    fun h' hk b o' e => hk b o' (old_not_new e) (Heap.get?_push_of_some _ e)
  refine ⟨s.heap.objs.size, [s.heap.objs.size], [s.heap.objs.size], y.cps.size, SignAt y, St, rfl, W A hh, hsz, hst, ?_, ⟨?_, ?_⟩, ?_⟩
  · intro b hb
    show b < (s.heap.push o).objs.size
    rw [Heap.size_push, List.mem_singleton.mp hb]
    exact Nat.lt_succ_self _
  · intro C i v s₃ m₃ E' hP hn hm _ _
    exact wpAny_pure ⟨rfl, _, _, rfl, fun _ _ e => e⟩
  · intro C i v s₃ m₃ E' hP _ hn hm hkeep _
    obtain ⟨c, u, hc, rfl⟩ := hP
    refine wpAny_mono (ord_leaf (env := envOf name fscope L a cd) X T (fun b o' e => up s₃.heap hkeep b o' (F.keep b o' e)) rfl rfl hn hm) (fun r s₄ h₄ => ?_) fun _ _ e => e
    obtain ⟨⟨t', e⟩, hK⟩ := h₄
    exact ⟨⟨c, u, t', rfl, e⟩, hK⟩
  · intro D h' tk ys vs hnew hlD hplD hlen hP hF hkeep
    obtain ⟨n, hD⟩ := hplD
    refine hQ D ys.toList n h' tk (fr_more F (up h' hkeep)) ?_ ?_
    · intro q hq
      rcases List.mem_cons.mp hq with rfl | hq
      · refine ⟨by simpa using hD, ?_, ?_⟩
        · intro e
          have e : D = L := e
          obtain ⟨oL, _, _, hL, _⟩ := F.ns
          rw [e, Heap.get?_push_of_some _ hL] at hnew
          cases hnew
        · cases e : h₀.get? D with
          | none => rfl
          | some o' => rw [Heap.get?_push_of_some _ (F.keep _ _ e)] at hnew; cases hnew
      · exact news_more N (up h' hkeep) q hq
    · have hf : vs.filter (fun _ => true) = vs := by simp
      rw [hf] at hF
      exact paired_ords y.cps.toList vs ys.toList (by simpa using hlen) (fun j v hj => by
        obtain ⟨c, u, hc, e⟩ := hP j v hj
        exact ⟨c, u, by simpa using hc, e⟩) hF

def chrs (b : List UInt8) : List Str := b.map fun c => ⟨#[c.toNat]⟩

theorem paired_chrs : ∀ (l : List UInt8) (vs ys : List Value), vs.length = l.length → (∀ (j : Nat) (v : Value), vs[j]? = some v → ∃ (c : UInt8) (u : Tok), l[j]? = some c ∧ v = Value.int (c.toNat : Int) u) →
    Paired (fun v r => ∃ (c : UInt8) (u t : Tok), v = Value.int (c.toNat : Int) u ∧ r = Value.str ⟨#[c.toNat]⟩ t) vs ys → ∃ ls : List (Str × Tok), ys = strValues ls ∧ ls.map (·.1) = chrs l := by
  intro l
  induction l with
  | nil =>
    intro vs ys hl hP hF
    cases vs with
    | nil => cases hF; exact ⟨[], rfl, rfl⟩
    | cons v r => cases hl
  | cons c l ih =>
    intro vs ys hl hP hF
    cases vs with
    | nil => cases hl
    | cons v r =>
      cases hF with
      | cons hv hr =>
        obtain ⟨c', u', hc', hv'⟩ := hP 0 v rfl
        obtain ⟨c'', u, t, e1, e2⟩ := hv
        subst e2
        rw [hv'] at e1
        have ec : c' = c := (Option.some.inj hc').symm
        subst ec
        have : c''.toNat = c'.toNat := by
          have h1 := (Value.int.inj e1).1
          omega
        obtain ⟨ls, h1, h2⟩ := ih r _ (by simpa using hl) (fun j v hj => by simpa using hP (j + 1) v (by simpa using hj)) hr
        refine ⟨(⟨#[c''.toNat]⟩, t) :: ls, ?_, ?_⟩
        · rw [h1]; rfl
        · rw [List.map_cons, h2, this]; rfl

theorem chr_comp {PP : Params} {name z : Str} {fscope : Scope} {a : Addr} {cd : Value} {y : Array UInt8} {t : Tok} {p1 p2 p3 p4 p5 pos : Pos} {Q : Value → Shared → Prop} (hh : A.handled = none) (F : Fr h₀ L s.heap m) (N : News h₀ L s.heap news) (X : (hd.heap_39 PP).In h₀) (T : Top p loose mean mg mb h₀)
    (hz : m z = some (.bytes y t)) (hk : fscope.kind = .function) (hl : (envOf name fscope L a cd).kindOf z = some .local) (hd : (z == ("__debug__" : Str)) = false) (hsz : y.size ≤ sizeLine)
    (hQ : ∀ D ls n h' tk, Fr h₀ L h' m → News h₀ L h' ((D, W.listOf (strValues ls).toArray n) :: news) → ls.map (·.1) = chrs y.toList → Q (.ref D) { s with heap := h', toks := tk }) :
    wpAny (model prog w) A (eval (.ListComp (.Call (.Name (Str.ofString "chr") p1) [.Name (Str.ofString "octet") p2] [] p3) [⟨.Name (Str.ofString "octet") p4, .Name z p5, [], 0⟩] chrScope pos) (envOf name fscope L a cd)) Q E s := by
  refine wpAny_ListComp_walk (fun _ => true) (fun v r => ∃ (c : UInt8) (u t : Tok), v = Value.int (c.toNat : Int) u ∧ r = Value.str ⟨#[c.toNat]⟩ t) (by decide +kernel) (by decide +kernel) rfl (by decide +kernel) rfl ?_
  refine ld F hz ?_ hk hl hd
  refine KBw.pyIter_bytes ?_
  generalize ho : ({ cls := .type "bytes_iterator", data := .fields #[.bytes y t, .int 0 0] } : Obj) = o
  have up : ∀ (h' : Heap), (∀ b o', b ∉ [s.heap.objs.size] → (s.heap.push o).get? b = some o' → h'.get? b = some o') → ∀ b o', s.heap.get? b = some o' → h'.get? b = some o' :=
    fun h' hk b o' e => hk b o' (old_not_new e) (Heap.get?_push_of_some _ e)
  refine ⟨s.heap.objs.size, [s.heap.objs.size], [s.heap.objs.size], y.size, _, _, rfl, KBw.walks hh _ y t, hsz, ⟨_, Heap.get?_push_size _ (by rw [← ho]; rfl), by rw [← ho], by rw [← ho]; rfl⟩, ?_, ⟨?_, ?_⟩, ?_⟩
  · intro b hb
    show b < (s.heap.push o).objs.size
    rw [Heap.size_push, List.mem_singleton.mp hb]
    exact Nat.lt_succ_self _
  · intro C i v s₃ m₃ E' hP hn hm _ _
    exact wpAny_pure ⟨rfl, _, _, rfl, fun _ _ e => e⟩
  · intro C i v s₃ m₃ E' hP _ hn hm hkeep _
    obtain ⟨c, u, hc, rfl⟩ := hP
    refine wpAny_mono (chr_leaf (env := envOf name fscope L a cd) X T (fun b o' e => up s₃.heap hkeep b o' (F.keep b o' e)) rfl rfl hn hm) (fun r s₄ h₄ => ?_) fun _ _ e => e
    obtain ⟨⟨t', e⟩, hK⟩ := h₄
    exact ⟨⟨c, u, t', rfl, e⟩, hK⟩
  · intro D h' tk ys vs hnew hlD hplD hlen hP hF hkeep
    obtain ⟨n, hD⟩ := hplD
    have hf : vs.filter (fun _ => true) = vs := by simp
    rw [hf] at hF
    obtain ⟨ls, h1, h2⟩ := paired_chrs y.toList vs ys.toList (by simpa using hlen) (fun j v hj => by
        obtain ⟨c, u, hc, e⟩ := hP j v hj
        exact ⟨c, u, by simpa using hc, e⟩) hF
    refine hQ D ls n h' tk (fr_more F (up h' hkeep)) ?_ h2
    intro q hq
    rcases List.mem_cons.mp hq with rfl | hq
    · refine ⟨by rw [← h1]; simpa using hD, ?_, ?_⟩
      · intro e
        have e : D = L := e
        obtain ⟨oL, _, _, hL, _⟩ := F.ns
        rw [e, Heap.get?_push_of_some _ hL] at hnew
        cases hnew
      · cases e : h₀.get? D with
        | none => rfl
        | some o' => rw [Heap.get?_push_of_some _ (F.keep _ _ e)] at hnew; cases hnew
    · exact news_more N (up h' hkeep) q hq

theorem news_in {h : Heap} {D : Addr} {vs : List Value} {n : Nat} (N : News h₀ L h ((D, W.listOf vs.toArray n) :: news)) : h.IsList D vs.toArray :=
  ⟨_, (N _ (List.mem_cons_self ..)).1, rfl, n, rfl⟩
theorem news_off {h : Heap} {q : Addr × Obj} (N : News h₀ L h (q :: news)) : News h₀ L h news := fun r hr => N r (List.mem_cons_of_mem _ hr)

theorem bytes_of_ords {y : Str} {D : Addr} {vs : List Value} {n : Nat} {Q : Value → Shared → Prop} (hh : A.handled = none) (F : Fr h₀ L s.heap m) (N : News h₀ L s.heap ((D, W.listOf vs.toArray n) :: news)) (hi : IntsAre vs (ordsOf y)) (hb : below y.cps) (hz : y.length ≤ sizeLine)
    (h : ∀ h' t k, Fr h₀ L h' m → News h₀ L h' news → Q (.bytes (octs y) t) { s with heap := h', toks := k }) : wpAny (model prog w) A (call (.type "bytes") [.ref D]) Q E s := by
  refine bytes_K F (news_off N) (news_in N) hi ?_ ?_ hh fun h' t k F' N' _ => ?_
  · intro c hc
    obtain ⟨d, hd, rfl⟩ := List.mem_map.mp hc
    have := hb d hd
    omega
  · have := hi.length
    unfold ordsOf at this
    rw [List.length_map] at this
    have hz' : y.cps.size ≤ sizeLine := hz
    simp at this
    omega
  · have e : ((ordsOf y).map fun n => n.toNat.toUInt8).toArray = octs y := by
      unfold ordsOf octs
      apply Array.ext'
      simp
    rw [e]
    exact h h' t k F' N'

theorem join_chrs {x : Str} {D : Addr} {ls : List (Str × Tok)} {n : Nat} {u : Tok} {Q : Value → Shared → Prop} (F : Fr h₀ L s.heap m) (N : News h₀ L s.heap ((D, W.listOf (strValues ls).toArray n) :: news)) (hl : ls.map (·.1) = chrs (octs x).toList) (hb : below x.cps) (hz : x.length ≤ 2 ^ 20)
    (h : ∀ t' k, Fr h₀ L s.heap m → News h₀ L s.heap news → Q (.str x t') { s with toks := k }) : wpAny (model prog w) A (call (.builtin "str.join") [.str (Str.ofString "") u, .ref D]) Q E s := by
  have he : (Str.ofString "") = ⟨#[]⟩ := by decide +kernel
  rw [he]
  have hz' : x.cps.size ≤ 2 ^ 20 := hz
  have hlen : ls.length = x.cps.size := by
    have := congrArg List.length hl
    simpa [chrs, octs] using this
  have hcat : ∀ l : List Nat, (∀ c ∈ l, c < 256) → ∀ ls : List (Str × Tok), ls.map (·.1) = chrs (l.map (·.toUInt8)) → cat (ls.map fun p => (p.1.cps, p.2)) = l := by
    intro l
    induction l with
    | nil =>
      intro _ ls h
      cases ls with
      | nil => rfl
      | cons _ _ => cases h
    | cons c l ih =>
      intro hc ls h
      cases ls with
      | nil => cases h
      | cons q r =>
        simp only [List.map_cons, chrs, List.cons.injEq] at h
        have h2 := ih (fun d hd => hc d (List.mem_cons_of_mem _ hd)) r h.2
        have h256 := hc c (List.mem_cons_self ..)
        have e : (UInt8.ofNat c).toNat = c := by rw [UInt8.toNat_ofNat']; exact Nat.mod_eq_of_lt h256
        unfold cat at h2 ⊢
        rw [List.map_cons, List.flatMap_cons, h2, h.1]
        show [(UInt8.ofNat c).toNat] ++ l = c :: l
        rw [e]; rfl
  have hc := hcat x.cps.toList hb ls (by rw [hl]; simp [octs])
  have hpv : pv 0 (ls.map fun p => (p.1.cps, p.2)) = strValues ls := by
    unfold pv strValues
    rw [List.map_map]
    rfl
  by_cases hnil : ls = []
  · have hx : x = ⟨#[]⟩ := by
      obtain ⟨c⟩ := x
      rw [hnil] at hlen
      have : c = #[] := Array.eq_empty_of_size_eq_zero hlen.symm
      rw [this]
    subst hnil
    rw [hx] at h
    exact SC.join (l := []) (news_in N) rfl rfl fun t' k => h t' k F (news_off N)
  · refine join_str (ps := ls.map fun p => (p.1.cps, p.2)) (N _ (List.mem_cons_self ..)).1 rfl (by rw [hpv]) (by simpa using hnil) (by rw [List.length_map, sizeLine_eq]; omega) (by rw [hc, sizeLine_eq]; simp; omega) fun t' k => ?_
    rw [hc]
    exact h t' k F (news_off N)
end
end Mine
end
namespace Mine
theorem calmW6 : True := by
  w_top off
  trivial
end Mine
section
open PySem PySem.W PyProof.Rows
set_option maxRecDepth 100000
set_option maxHeartbeats 8000000
namespace Mine
open PySem PySem.Sre PySem.Builtin.Re

def doneS (d : Int) (x : Str) : Str := ⟨(doneL d x.cps.toList).toArray⟩
theorem quoteS_fits {x : Str} (h : x.length ≤ 2 ^ 19) : (quoteS x).length ≤ 2 ^ 20 := by
  have := quote_len none x.cps.toList
  have h' : x.cps.size ≤ 2 ^ 19 := h
  show (quoteL none x.cps.toList).toArray.size ≤ 2 ^ 20
  simp at this ⊢
  omega
theorem quoteS_below {x : Str} (h : below x.cps) : below (quoteS x).cps := by
  unfold below quoteS
  simp only
  exact quote_below h
theorem octs_fits {x : Str} (h : x.length ≤ 2 ^ 19) : (octs (quoteS x)).size ≤ sizeLine := by
  have := quoteS_fits h
  unfold octs
  rw [Array.size_map, sizeLine_eq]
  have h' : (quoteS x).cps.size ≤ 2 ^ 20 := this
  omega
theorem line_fits {x : Str} (h : x.length ≤ 2 ^ 19) : x.length ≤ sizeLine := by rw [sizeLine_eq]; omega
theorem done_zero {d : Int} {x : Str} (h : d = 0) : quoteS x = doneS d x := by unfold doneS doneL quoteS; rw [if_pos h]
theorem done_one {d : Int} {x : Str} (h : ¬ d = 0) (h' : d = 1) : fixS x = doneS d x := by unfold doneS doneL fixS; rw [if_neg h, if_pos h']
theorem done_two {d : Int} {x : Str} (h : ¬ d = 0) (h' : ¬ d = 1) : quoteS (fixS x) = doneS d x := by unfold doneS doneL quoteS fixS; rw [if_neg h, if_neg h']

local macro_rules | `(tactic| walk_at "eval ListComp") => `(tactic| (k_here; k_dflt (first
  | ((with_reducible show wpAny _ _ (eval (Expr.ListComp (Expr.Call (Expr.Name (Str.ofString "ord") _) _ _ _) _ _ _) _) _ _ _); refine' ord_comp ?kh ?kF ?kN ?kX ?kT ?kz ?kk ?kl ?kd ?ks ?_; (case kh => exact rfl); (case kF => k_asm); (case kN => k_asm); (case kX => k_asm); (case kT => k_asm); (case kz => exact rfl); (case kk => exact rfl); (case kl => exact rfl); (case kd => decide); (case ks => exact line_fits (by assumption)); intro D9 vs9 n9 h9 tk9 F9 N9 hI9)
  | ((with_reducible show wpAny _ _ (eval (Expr.ListComp (Expr.Call (Expr.Name (Str.ofString "chr") _) _ _ _) _ _ _) _) _ _ _); refine' chr_comp ?kh ?kF ?kN ?kX ?kT ?kz ?kk ?kl ?kd ?ks ?_; (case kh => exact rfl); (case kF => k_asm); (case kN => k_asm); (case kX => k_asm); (case kT => k_asm); (case kz => exact rfl); (case kk => exact rfl); (case kl => exact rfl); (case kd => decide); (case ks => exact octs_fits (by assumption)); intro D9 ls9 n9 h9 tk9 F9 N9 hI9))))
local macro_rules | `(tactic| walk_at "call type:bytes") => `(tactic| (k_here; k_dflt (refine' bytes_of_ords ?kh ?kF ?kN ?ki ?kb ?kz ?_; (case kh => exact rfl); (case kF => k_asm); (case kN => k_asm); (case ki => assumption); (case kb => assumption); (case kz => exact line_fits (by assumption)); intro h9 t9 tk9 F9 N9)))
local macro_rules | `(tactic| walk_at "call builtin:str.join") => `(tactic| (k_here; k_dflt (refine' join_chrs ?kF ?kN ?ki ?kb ?kz ?_; (case kF => k_asm); (case kN => k_asm); (case ki => assumption); (case kb => exact quoteS_below (by assumption)); (case kz => exact quoteS_fits (by assumption)); intro t9 tk9 F9 N9)))
local macro_rules | `(tactic| walk_at "call ref") => `(tactic| (k_here; k_dflt (first
  | ((with_reducible show wpAny _ _ (call (Value.ref 67) _) _ _ _); refine' cb_use (fix_claim _ _ _ _ _ _ _) ?k1 ?k2 ?k3 ?k4 ?k5 ?kK ?kp ?kd ?ku ?_; (case k1 => k_asm); (case k2 => k_asm); (case k3 => k_asm); (case k4 => k_asm); (case k5 => k_asm); (case kK => first | exact rfl | assumption); (case kp => assumption); (case kd => ktr_room); (case ku => ktr_units); intro t9 h9 tk9 F9 N9; (try dsimp only))
  | ((with_reducible show wpAny _ _ (call (Value.ref 53) _) _ _ _); refine' cb_use (quotedata_claim _ _ _ _ _ _ _) ?k1 ?k2 ?k3 ?k4 ?k5 ?kK ?kp ?kd ?ku ?_; (case k1 => k_asm); (case k2 => k_asm); (case k3 => k_asm); (case k4 => k_asm); (case k5 => k_asm); (case kK => first | exact rfl | assumption); (case kp => assumption); (case kd => ktr_room); (case ku => ktr_units); intro t9 h9 tk9 F9 N9; (try dsimp only))
  | ((with_reducible show wpAny _ _ (call (Value.ref 60) _) _ _ _); refine' cb_use (periods_claim _ _ _ _ _ _ _) ?k1 ?k2 ?k3 ?k4 ?k5 ?kK ?kp ?kd ?ku ?_; (case k1 => k_asm); (case k2 => k_asm); (case k3 => k_asm); (case k4 => k_asm); (case k5 => k_asm); (case kK => first | exact rfl | assumption); (case kp => exact And.intro (by assumption) (by assumption)); (case kd => ktr_room); (case ku => ktr_units); intro t9 h9 tk9 F9 N9; (try dsimp only)))))

theorem done_claim (w : World) (mean : ExcName → Option Value) (mg mb : Str → Option Value) (d : Int) (td : Tok) (x : Str) (t0 : Tok) (news : List (Addr × Obj)) :
    CcClaim 4 PySem.Challenge.rw_nb0382_01.row.prog w (hd.heap_39 w.params) hd.view_39 LS mean mg mb 79 news (x.length ≤ 2 ^ 19 ∧ below x.cps) [.int d td, .str x t0] (fun t => .str (doneS d x) t) := by
  k_fill
  dsimp only [CcClaim, CbRet]; intros; rename_i hpre _ _ hret
  obtain ⟨hp1, hp2⟩ := hpre
  refine wpAny_call ?_
  k_dflt cell_enter
  k_steps
  all_goals (refine' cb_retS hret ?e1 ?e2 ?e3; (case e2 => k_asm); (case e3 => k_asm); (case e1 => ((try simp only [decide_eq_true_eq, decide_eq_false_iff_not] at *); first | exact done_zero (by assumption) | exact done_one (by assumption) (by assumption) | exact done_two (by assumption) (by assumption))))
end Mine
end
section
set_option maxRecDepth 100000
namespace Mine
open PySem PySem.W

theorem fold_filter (q : Int → Prop) [DecidablePred q] (L acc : List Int) : List.foldl (fun l' k' => if ¬ q k' then l' ++ [k'] else l') acc L = acc ++ L.filter (fun k => decide (¬ q k)) := by
  induction L generalizing acc with
  | nil => simp
  | cons k r ih =>
    rw [List.foldl_cons, ih, List.filter_cons]
    by_cases h : q k
    · simp [h]
    · simp [h]

def makL (run : List Int) : List Int := List.foldl (fun l' k' => if ¬run.getD k'.toNat 0 = 0 then l' ++ [k'] else l') [] (rangeKs 0 ((run.length : Int) - 0).toNat)
def lateL (r : List Int) : List Int := List.foldl (fun l' k' => if ¬k' = 1 then l' ++ [k'] else l') [] r

theorem mak_is (run : List Int) : makL run = ((List.range run.length).filter fun i => decide (run.getD i 0 ≠ 0)).map fun (i : Nat) => (i : Int) := by
  unfold makL
  rw [fold_filter (fun k => run.getD k.toNat 0 = 0), List.nil_append]
  have : ((run.length : Int) - 0).toNat = run.length := by omega
  rw [this]
  unfold rangeKs
  rw [List.filter_map]
  have e : (fun (i : Nat) => (0 : Int) + (i : Int)) = fun (i : Nat) => (i : Int) := by funext i; omega
  rw [e]
  congr 1

theorem range_filter_cons (c : Int) (r : List Int) : (List.range (c :: r).length).filter (fun i => decide ((c :: r).getD i 0 ≠ 0)) =
    (if c ≠ 0 then [0] else []) ++ ((List.range r.length).filter fun i => decide (r.getD i 0 ≠ 0)).map (· + 1) := by
  rw [List.length_cons, List.range_succ_eq_map, List.filter_cons, List.filter_map]
  have e : (fun i => decide ((c :: r).getD i 0 ≠ 0)) ∘ Nat.succ = fun i => decide (r.getD i 0 ≠ 0) := by
    funext i; simp
  rw [e]
  by_cases h : c = 0 <;> simp [h]

theorem mak_head (run : List Int) : (((List.range run.length).filter fun i => decide (run.getD i 0 ≠ 0)).head?) = if mkB run = true then some (earlyN run) else none := by
  induction run with
  | nil => rfl
  | cons c r ih =>
    rw [range_filter_cons]
    have e1 : mkB (c :: r) = (c != 0 || mkB r) := by unfold mkB; rw [List.any_cons]
    have e2 : earlyN (c :: r) = if c = 0 then earlyN r + 1 else 0 := rfl
    rw [e1, e2]
    by_cases h : c = 0
    · rw [if_neg (by simpa using h), List.nil_append, List.head?_map, ih, if_pos h]
      simp only [h, bne_self_eq_false, Bool.false_or]
      cases mkB r <;> rfl
    · rw [if_pos h, if_neg h]
      simp [h]

theorem mak_nil (run : List Int) : (!decide (makL run = [])) = mkB run := by
  have h := mak_head run
  rw [mak_is]
  cases hm : mkB run with
  | true =>
    rw [hm, if_pos rfl] at h
    have : ((List.range run.length).filter fun i => decide (run.getD i 0 ≠ 0)) ≠ [] := by intro e; rw [e] at h; cases h
    rw [decide_eq_false (by intro e; exact this (List.map_eq_nil_iff.mp e))]; rfl
  | false =>
    rw [hm, if_neg Bool.false_ne_true, List.head?_eq_none_iff] at h
    rw [h]; rfl
theorem mak_eq (run : List Int) : decide (makL run = []) = !mkB run := by rw [← mak_nil, Bool.not_not]
theorem mak_zero {run : List Int} (h : mkB run = true) : 0 < (makL run).length ∧ (makL run).getD 0 0 = (earlyN run : Int) := by
  have hh := mak_head run
  rw [h, if_pos rfl] at hh
  rw [mak_is]
  cases hl : ((List.range run.length).filter fun i => decide (run.getD i 0 ≠ 0)) with
  | nil => rw [hl] at hh; cases hh
  | cons a r =>
    rw [hl] at hh
    have : a = earlyN run := Option.some.inj hh
    subst this
    exact ⟨by simp, by simp⟩
theorem early_le (run : List Int) : earlyN run ≤ run.length := by
  induction run with
  | nil => exact Nat.le_refl _
  | cons d r ih => unfold earlyN; split <;> simp only [List.length_cons] <;> omega
theorem late_is (run : List Int) : ((lateL (run.drop (earlyN run))).length : Int) = (lateN run : Int) := by
  unfold lateL lateN
  rw [fold_filter (fun k => k = 1), List.nil_append]
  congr 3
  funext k
  by_cases h : k = 1 <;> simp [h]
theorem late_le (run : List Int) : lateN run ≤ run.length := by
  unfold lateN
  refine Nat.le_trans (List.length_filter_le _ _) ?_
  rw [List.length_drop]; omega

/-! the text due, sign by sign -/
def pieceL (e l : Nat) (mk : Bool) (p : Option Nat) (c : Nat) : List Nat :=
  if c = 46 ∧ bolP p = true then List.replicate (1 + e + l) 46
  else if c = 46 ∧ p = some 13 then List.replicate (1 + l) 46
  else if mk = false ∨ (c ≠ 13 ∧ c ≠ 10) then [c]
  else if c = 13 ∨ p ≠ some 13 then [13, 10]
  else []
theorem due_cons (e l : Nat) (mk : Bool) (p : Option Nat) (c : Nat) (r : List Nat) : dueL e l mk p (c :: r) = pieceL e l mk p c ++ dueL e l mk (some c) r := by
  unfold pieceL
  conv => lhs; unfold dueL
  (repeat' split) <;> rfl
theorem due_snoc (e l : Nat) (mk : Bool) : ∀ (y : List Nat) (p : Option Nat) (c : Nat), dueL e l mk p (y ++ [c]) = dueL e l mk p y ++ pieceL e l mk (if y.length = 0 then p else y[y.length - 1]?) c := by
  intro y
  induction y with
  | nil =>
    intro p c
    rw [List.nil_append, due_cons]
    show pieceL e l mk p c ++ [] = [] ++ _
    rw [List.append_nil, List.nil_append]; rfl
  | cons d r ih =>
    intro p c
    rw [List.cons_append, due_cons, due_cons, ih, List.append_assoc]
    congr 2
    cases r with
    | nil => rfl
    | cons f r' => simp
def duePre (x : List Nat) (run : List Int) (i : Nat) : List Nat := dueL (earlyN run) (lateN run) (mkB run) none (x.take i)
theorem duePre_succ {x : List Nat} {run : List Int} {i c : Nat} (h : x[i]? = some c) : duePre x run (i + 1) = duePre x run i ++ pieceL (earlyN run) (lateN run) (mkB run) (prevAt x i) c := by
  unfold duePre
  rw [List.take_add_one, h]
  show dueL _ _ _ none (x.take i ++ [c]) = _
  rw [due_snoc]
  have hi : i < x.length := (List.getElem?_eq_some_iff.mp h).1
  have hl : (x.take i).length = i := by rw [List.length_take]; omega
  rw [hl]
  congr 2
  unfold prevAt
  cases i with
  | zero => rfl
  | succ i => rw [if_neg (by omega), if_neg (by omega), List.getElem?_take]; simp
theorem duePre_all (x : List Nat) (run : List Int) : duePre x run x.length = dueRun x run := by unfold duePre dueRun; rw [List.take_length]
theorem duePre_zero (x : List Nat) (run : List Int) : duePre x run 0 = [] := rfl
theorem piece_len (e l : Nat) (mk : Bool) (p : Option Nat) (c : Nat) : (pieceL e l mk p c).length ≤ 2 + e + l := by
  unfold pieceL
  (repeat' split) <;> simp <;> omega
theorem duePre_len (x : List Nat) (run : List Int) : ∀ i, i ≤ x.length → (duePre x run i).length ≤ i * (2 + earlyN run + lateN run) := by
  intro i
  induction i with
  | zero => intro _; rw [duePre_zero]; simp
  | succ i ih =>
    intro h
    have e : x[i]? = some x[i] := List.getElem?_eq_getElem (by omega)
    rw [duePre_succ e, List.length_append, Nat.succ_mul]
    have := ih (by omega)
    have := piece_len (earlyN run) (lateN run) (mkB run) (prevAt x i) x[i]
    omega
end Mine
end
section
open PySem PySem.W PyProof.Rows
set_option maxRecDepth 100000
namespace Mine
open PySem

theorem item_is {x : Str} {i c : Nat} (h : x.cps.toList[i]? = some c) : Txt.item x (i : Int) = ⟨#[c]⟩ := by
  have hi : i < x.cps.size := by
    have := (List.getElem?_eq_some_iff.mp h).1
    simpa using this
  have hi' : i < x.length := hi
  unfold Txt.item Txt.charAt
  have e : seqIndex? (i : Int) x.length = some i := by
    unfold seqIndex?
    simp
    omega
  rw [e]
  have e2 : x.cps[i]? = some c := by simpa using h
  simp [e2]
def befS : Option Nat → Str
  | none => ⟨#[]⟩
  | some q => ⟨#[q]⟩
theorem slice_is {x : Str} {i : Nat} (hi : i < x.length) : Txt.slice x (some ((i : Int) - 1)) (some (i : Int)) = befS (prevAt x.cps.toList i) := by
  unfold Txt.slice
  cases i with
  | zero =>
    have e : Builtin.Str.strSliceIndices (some (((0 : Nat) : Int) - 1)) (some ((0 : Nat) : Int)) 1 x.length = [] := by
      unfold Builtin.Str.strSliceIndices sliceRange
      simp
      omega
    rw [e]
    have : ((1 : Int) == 1 && ([] : List Nat).length == x.length) = false := by simp; omega
    rw [this, if_neg Bool.false_ne_true]
    rfl
  | succ i =>
    have e : Builtin.Str.strSliceIndices (some (((i + 1 : Nat) : Int) - 1)) (some ((i + 1 : Nat) : Int)) 1 x.length = [i] := by
      unfold Builtin.Str.strSliceIndices sliceRange
      have a1 : ¬ (((i + 1 : Nat) : Int) - 1 < 0) := by omega
      have a2 : ¬ (((i + 1 : Nat) : Int) < 0) := by omega
      have a3 : max 0 (min (((i + 1 : Nat) : Int) - 1) (x.length : Int)) = (i : Int) := by omega
      have a4 : max 0 (min ((i + 1 : Nat) : Int) (x.length : Int)) = (i : Int) + 1 := by omega
      simp only [show (1 : Int) > 0 by decide, if_true, if_neg a1, if_neg a2, a3, a4]
      have a5 : (i : Int) < (i : Int) + 1 := by omega
      rw [if_pos a5]
      have a6 : ((i : Int) + 1 - (i : Int) + 1 - 1) / 1 = 1 := by omega
      rw [a6]
      simp
    rw [e]
    have : ((1 : Int) == 1 && [i].length == x.length) = false := by simp; omega
    rw [this, if_neg Bool.false_ne_true]
    have hlt : i < x.cps.size := Nat.lt_of_succ_lt hi
    have e2 : x.cps[i]? = some x.cps[i] := by simp [hlt]
    have e3 : prevAt x.cps.toList (i + 1) = some x.cps[i] := by rw [prevAt_succ]; simpa using e2
    rw [e3]
    simp [befS, e2]
theorem sign_is {c d : Nat} : ((⟨#[c]⟩ : Str) == ⟨#[d]⟩) = decide (c = d) := by
  by_cases h : c = d
  · subst h; simp
  · rw [decide_eq_false h]
    apply beq_eq_false_iff_ne.mpr
    intro e
    have := congrArg (fun z : Str => z.cps.getD 0 0) e
    exact h (by simpa using this)
theorem bef_dot {p : Option Nat} : ([Str.ofString "", Str.ofString "\n"].any fun x_1 => x_1 == befS p) = bolP p := by
  have e1 : Str.ofString "" = ⟨#[]⟩ := by decide +kernel
  have e2 : Str.ofString "\n" = ⟨#[10]⟩ := by decide +kernel
  rw [e1, e2]
  cases p with
  | none => simp [befS, bolP]
  | some q =>
    have a : ((⟨#[]⟩ : Str) == ⟨#[q]⟩) = false := by
      apply beq_eq_false_iff_ne.mpr
      intro e
      have := congrArg (fun z : Str => z.cps.size) e
      simp at this
    simp only [List.any_cons, List.any_nil, befS, a, sign_is, bolP, Bool.false_or, Bool.or_false]
    by_cases h : q = 10
    · subst h; rfl
    · have : ¬ 10 = q := fun e => h e.symm
      simp [h, this]
theorem bef_cr {p : Option Nat} : (befS p == Str.ofString "\r") = decide (p = some 13) := by
  have e1 : Str.ofString "\r" = ⟨#[13]⟩ := by decide +kernel
  rw [e1]
  cases p with
  | none =>
    rw [decide_eq_false (by simp)]
    apply beq_eq_false_iff_ne.mpr
    intro e
    have := congrArg (fun z : Str => z.cps.size) e
    simp [befS] at this
  | some q => rw [befS, sign_is]; simp
theorem sign_dot {c : Nat} : ((⟨#[c]⟩ : Str) == Str.ofString ".") = decide (c = 46) := by
  rw [show Str.ofString "." = ⟨#[46]⟩ from by decide +kernel, sign_is]
theorem sign_cr {c : Nat} : ((⟨#[c]⟩ : Str) == Str.ofString "\r") = decide (c = 13) := by
  rw [show Str.ofString "\r" = ⟨#[13]⟩ from by decide +kernel, sign_is]
theorem sign_eol {c : Nat} : (Builtin.Str.occurrences (Str.ofString "\r\n") ⟨#[c]⟩ 0 (Str.ofString "\r\n").length 1).isEmpty = decide (c ≠ 13 ∧ c ≠ 10) := by
  have h := StrLaws.found_one (Str.ofString "\r\n") c
  have e : (Str.ofString "\r\n").cps.toList = [13, 10] := by decide +kernel
  rw [e] at h
  have h2 : (Builtin.Str.occurrences (Str.ofString "\r\n") ⟨#[c]⟩ 0 (Str.ofString "\r\n").length 1).isEmpty = !decide (c ∈ [13, 10]) := by rw [← h, Bool.not_not]
  rw [h2]
  by_cases h13 : c = 13
  · subst h13; rfl
  · by_cases h10 : c = 10
    · subst h10; rfl
    · simp [h13, h10]
end Mine
end
namespace Mine
theorem calmW7 : True := by
  w_top off
  trivial
end Mine
section
open PySem PySem.W PyProof.Rows
set_option maxRecDepth 100000
set_option maxHeartbeats 2000000
namespace Mine
open PySem PySem.Sre PySem.Builtin.Re

def dueS (x : Str) (run : List Int) : Str := ⟨(dueRun x.cps.toList run).toArray⟩

def StopAt (P : Prop) : Prop := P
theorem stop_here {P : Prop} (h : StopAt P) : P := h
section
variable {prog : Program} {w : World} {A : Around} {E : Value → Shared → Prop} {s : Shared}
theorem mak_ne {D l : Addr} {ys : List Value} {run : List Int} {Q : Value → Shared → Prop} (hl : s.heap.IsList D ys.toArray) (hi : IntsAre ys (makL run)) (hl' : s.heap.IsList l #[]) (hu : A.units + 64 < cLine) (h : Q (.bool (mkB run)) s) :
    wpAny (model prog w) A (compareOp .NotEq (.ref D) (.ref l)) Q E s := ne_intsK hl hi (us := []) hl' .nil hu (by rw [mak_nil]; exact h)
theorem mak_eqv {D l : Addr} {ys : List Value} {run : List Int} {Q : Value → Shared → Prop} (hl : s.heap.IsList D ys.toArray) (hi : IntsAre ys (makL run)) (hl' : s.heap.IsList l #[]) (hu : A.units + 64 < cLine) (h : Q (.bool (!mkB run)) s) :
    wpAny (model prog w) A (compareOp .Eq (.ref D) (.ref l)) Q E s := eq_intsK hl hi (us := []) hl' .nil hu (by rw [mak_eq]; exact h)
theorem mak_item {value slice : PySem.Expr} {D : Addr} {ys : List Value} {run : List Int} {u : Tok} {Q : Value → Shared → Prop} (hl : s.heap.IsList D ys.toArray) (hi : IntsAre ys (makL run)) (hm : mkB run = true) (h : ∀ t, Q (.int (earlyN run) t) s)
    (hs : subscripted slice false (.ref D) (.int 0 u) = operate [.ref D, .int 0 u] (getItem (.ref D) (.int 0 u))) :
    wpAny (model prog w) A (subscriptTail value slice (.ref D) (.int 0 u)) Q E s := by
  obtain ⟨h1, h2⟩ := mak_zero hm
  have hlen := hi.length
  have hx : ys[0]? = some ys[0] := List.getElem?_eq_getElem (by omega)
  obtain ⟨k, t, e, hk⟩ := IntsAre.at hi 0 _ hx
  rw [List.getD_eq_getElem?_getD, hk] at h2
  have h2 : k = (earlyN run : Int) := h2
  subst h2
  rw [e] at hx
  exact tail_any hl.typeIs slot_list_getitem.lookup (wpAny_getItem_list hl (by decide) (by decide) (by simpa using hx) (h t)) hs
theorem len_early {l : Addr} {vs : List Value} {run : List Int} {Q : Value → Shared → Prop} (hl : s.heap.IsList l vs.toArray) (hi : IntsAre vs run) (hm : mkB run = false) (hlen : run.length ≤ 6) (h : ∀ t k, Q (.int (earlyN run) t) { s with toks := k }) :
    wpAny (model prog w) A (call (.builtin "len") [.ref l]) Q E s := by
  have hz := hi.length
  refine Calls.call_len_list hl (by simp; omega) ?_
  have e : ((vs.toArray.size : Nat) : Int) = (earlyN run : Int) := by rw [early_all hm, List.size_toArray, hz]
  rw [e]
  exact h _ _
theorem len_late {l : Addr} {ys : List Value} {run : List Int} {Q : Value → Shared → Prop} (hl : s.heap.IsList l ys.toArray) (hc : CarriedAll ys (List.map PyData.int (List.filter (fun a => a != 1) (List.drop (earlyN run) run)))) (hlen : run.length ≤ 6) (h : ∀ t k, Q (.int (lateN run) t) { s with toks := k }) :
    wpAny (model prog w) A (call (.builtin "len") [.ref l]) Q E s := by
  have hz := (IntsAre.ofCarried hc).length
  have hl2 := late_le run
  have e : ((ys.toArray.size : Nat) : Int) = (lateN run : Int) := by rw [List.size_toArray, hz]; rfl
  refine Calls.call_len_list hl (by rw [e]; omega) ?_
  rw [e]
  exact h _ _
def dueAt (x : Str) (run : List Int) (i : Nat) : Str := ⟨(duePre x.cps.toList run i).toArray⟩
def EarlyEnd (h₀ : Heap) (L : Addr) (m : Str → Option Value) (news : List (Addr × Obj)) (s : Shared) (run : List Int) (v : Value) (s' : Shared) : Prop :=
  ∃ t h' tk, v = .int (earlyN run) t ∧ s' = { s with heap := h', toks := tk } ∧ Fr h₀ L h' m ∧ News h₀ L h' news
theorem loadX {h₀ : Heap} {L a : Addr} {m : Str → Option Value} {cn y : Str} {cs : Scope} {ccd v : Value} {cl : List (Str × Addr)} {M : Model} {Q : Value → Shared → Prop} (F : Fr h₀ L s.heap m) (hv : m y = some v) (h : Q v s) (hk : cs.kind = .function) (hx : (envX cn cs L a ccd cl).kindOf y = some .local) :
    wpAny M A (loadName (envX cn cs L a ccd cl) y) Q E s := wpAny_loadName_local hk hx F.ns hv h
theorem list_in {h₀ h : Heap} {L D : Addr} {ys : List Value} {all : List (Addr × Obj)} (N : News h₀ L h all) (hm : (D, LCg.lst ys) ∈ all) : h.IsList D ys.toArray := ⟨_, (N _ hm).1, rfl, _, rfl⟩
theorem nil_in {h₀ h : Heap} {L D : Addr} {all : List (Addr × Obj)} (N : News h₀ L h all) (hm : (D, ({ cls := .type "list", data := .seq #[] } : Obj)) ∈ all) : h.IsList D #[] := ⟨_, (N _ hm).1, rfl, _, rfl⟩
theorem dots_is {k : Int} (h0 : 1 ≤ k) : Txt.mul ⟨#[46]⟩ k = ⟨(List.replicate k.toNat 46).toArray⟩ := by
  have key : ∀ (n : Nat) (acc : Array Nat), List.foldl (fun x1 x2 => x1 ++ x2) acc (List.replicate n #[46]) = acc ++ (List.replicate n 46).toArray := by
    intro n
    induction n with
    | zero => intro acc; simp
    | succ n ih =>
      intro acc
      rw [List.replicate_succ, List.foldl_cons, ih, List.replicate_succ]
      apply Array.ext'
      simp
  unfold Txt.mul
  rw [if_neg (by omega)]
  by_cases h1 : k = 1
  · subst h1; rfl
  · have : (k == 1 || ({ cps := #[46] } : Str).length == 0) = false := by rw [show (({ cps := #[46] } : Str).length == 0) = false from rfl, Bool.or_false]; simp [h1]
    rw [this, if_neg Bool.false_ne_true, key]
    simp
theorem mul_dots {k : Int} {t u : Tok} {Q : Value → Shared → Prop} (h0 : 1 ≤ k) (h1 : k ≤ 1000) (h : ∀ t' tk, Q (.str ⟨(List.replicate k.toNat 46).toArray⟩ t') { s with toks := tk }) :
    wpAny (model prog w) A (binaryOp .Mult (.str (Str.ofString ".") t) (.int k u)) Q E s := by
  have he : (Str.ofString ".") = ⟨#[46]⟩ := by decide +kernel
  rw [he]
  refine SB.mul ?_ fun t' tk => ?_
  · refine ⟨?_, fun _ _ => ?_, fun _ _ => ?_⟩
    · rw [decide_eq_false (by omega), decide_eq_false (by omega)]; rfl
    · have e1 : (({ cps := #[46] } : Str).length : Int) = 1 := rfl
      rw [e1]
      have : (1 : Int) ≤ (2 ^ 63 - 1) / k := by
        apply (Int.le_ediv_iff_mul_le (by omega)).mpr
        omega
      omega
    · have e1 : ({ cps := #[46] } : Str).length = 1 := rfl
      rw [e1, Nat.one_mul]
      unfold Builtin.Str.tooLong
      rw [sizeLine_eq]
      exact decide_eq_false (by omega)
  · rw [dots_is h0] at *
    exact h t' tk
theorem EarlyEnd.intro {h₀ : Heap} {L : Addr} {m : Str → Option Value} {news all : List (Addr × Obj)} {run : List Int} {t : Tok} {h' : Heap} {tk : Nat} (F : Fr h₀ L h' m) (N : News h₀ L h' all) (sub : ∀ p ∈ news, p ∈ all) :
    EarlyEnd h₀ L m news s run (.int (earlyN run) t) { s with heap := h', toks := tk } := ⟨t, h', tk, rfl, rfl, F, fun p hp => N p (sub p hp)⟩
theorem early_mid {h₀ : Heap} {L : Addr} {m : Str → Option Value} {news : List (Addr × Obj)} {ys : List Value} {run : List Int} {t : Sem Value} {Q : Value → Shared → Prop} (F : Fr h₀ L s.heap m) (N : News h₀ L s.heap news) (hi : IntsAre ys (makL run))
    (h1 : wpAny (model prog w) A t (EarlyEnd h₀ L m news s run) E s) (h2 : ∀ t' h' tk, Fr h₀ L h' m → News h₀ L h' news → Q (.int (earlyN run) t') { s with heap := h', toks := tk }) : wpAny (model prog w) A t Q E s :=
  wpAny_mono h1 (fun v s' h => by obtain ⟨t', h', tk, rfl, rfl, F', N'⟩ := h; exact h2 t' h' tk F' N') fun _ _ e => e
section
variable {x : Str} {run : List Int} {i c : Nat}
theorem way_of {d : Str} {y : List Nat} (hc : x.cps.toList[i]? = some c) (hp : pieceL (earlyN run) (lateN run) (mkB run) (prevAt x.cps.toList i) c = y) (hd : d = ⟨y.toArray⟩) : dueAt x run i ++ d = dueAt x run (i + 1) := by
  subst hp
  subst hd
  unfold dueAt
  rw [duePre_succ hc]
  apply Str.ext'
  rw [Str.cps_append]
  apply Array.ext'
  simp
theorem way_dots {k : Nat} (hk : 1 ≤ k) {n : Int} (hn : n = (k : Int)) : Txt.mul (Str.ofString ".") n = ⟨(List.replicate k 46).toArray⟩ := by
  have he : (Str.ofString ".") = ⟨#[46]⟩ := by decide +kernel
  subst hn
  rw [he, dots_is (by omega)]
  simp
variable (hi : i < x.length) (hc : x.cps.toList[i]? = some c)
include hi hc
theorem way1 (h1 : (Txt.item x (i : Int) == Str.ofString ".") = true) (h2 : ([Str.ofString "", Str.ofString "\n"].any fun x_1 => x_1 == Txt.slice x (some ((i : Int) - 1)) (some (i : Int))) = true) :
    dueAt x run i ++ Txt.mul (Str.ofString ".") (1 + (earlyN run : Int) + (lateN run : Int)) = dueAt x run (i + 1) := by
  rw [item_is hc, sign_dot, decide_eq_true_eq] at h1
  rw [slice_is hi, bef_dot] at h2
  refine way_of hc ?_ (way_dots (k := 1 + earlyN run + lateN run) (by omega) (by omega))
  unfold pieceL
  rw [if_pos ⟨h1, h2⟩]
theorem way2 (h1 : (Txt.item x (i : Int) == Str.ofString ".") = true) (h2 : ([Str.ofString "", Str.ofString "\n"].any fun x_1 => x_1 == Txt.slice x (some ((i : Int) - 1)) (some (i : Int))) = false) (h3 : (Txt.slice x (some ((i : Int) - 1)) (some (i : Int)) == Str.ofString "\r") = true) :
    dueAt x run i ++ Txt.mul (Str.ofString ".") (1 + (lateN run : Int)) = dueAt x run (i + 1) := by
  rw [item_is hc, sign_dot, decide_eq_true_eq] at h1
  rw [slice_is hi, bef_dot] at h2
  rw [slice_is hi, bef_cr, decide_eq_true_eq] at h3
  refine way_of hc ?_ (way_dots (k := 1 + lateN run) (by omega) (by omega))
  unfold pieceL
  rw [if_neg (by rw [h2]; simp), if_pos ⟨h1, h3⟩]
theorem way3 (h1 : (Txt.item x (i : Int) == Str.ofString ".") = true) (h2 : ([Str.ofString "", Str.ofString "\n"].any fun x_1 => x_1 == Txt.slice x (some ((i : Int) - 1)) (some (i : Int))) = false) (h3 : (Txt.slice x (some ((i : Int) - 1)) (some (i : Int)) == Str.ofString "\r") = false) :
    dueAt x run i ++ Txt.item x (i : Int) = dueAt x run (i + 1) := by
  rw [item_is hc, sign_dot, decide_eq_true_eq] at h1
  rw [slice_is hi, bef_dot] at h2
  rw [slice_is hi, bef_cr, decide_eq_false_iff_not] at h3
  rw [item_is hc]
  refine way_of hc ?_ rfl
  unfold pieceL
  rw [if_neg (by rw [h2]; simp), if_neg (fun h => h3 h.2), if_pos (.inr (by omega))]
theorem way_no (h1 : (Txt.item x (i : Int) == Str.ofString ".") = true) (h2 : (Builtin.Str.occurrences (Str.ofString "\r\n") (Txt.item x (i : Int)) 0 (Str.ofString "\r\n").length 1).isEmpty = false) : False := by
  rw [item_is hc, sign_dot, decide_eq_true_eq] at h1
  rw [item_is hc, sign_eol, decide_eq_false_iff_not] at h2
  omega
theorem way4 (h1 : (Txt.item x (i : Int) == Str.ofString ".") = false) (h2 : (Builtin.Str.occurrences (Str.ofString "\r\n") (Txt.item x (i : Int)) 0 (Str.ofString "\r\n").length 1).isEmpty = true) :
    dueAt x run i ++ Txt.item x (i : Int) = dueAt x run (i + 1) := by
  rw [item_is hc, sign_dot, decide_eq_false_iff_not] at h1
  rw [item_is hc, sign_eol, decide_eq_true_eq] at h2
  rw [item_is hc]
  refine way_of hc ?_ rfl
  unfold pieceL
  rw [if_neg (fun h => h1 h.1), if_neg (fun h => h1 h.1), if_pos (.inr h2)]
theorem way5 (h1 : (Txt.item x (i : Int) == Str.ofString ".") = false) (h2 : mkB run = false) :
    dueAt x run i ++ Txt.item x (i : Int) = dueAt x run (i + 1) := by
  rw [item_is hc, sign_dot, decide_eq_false_iff_not] at h1
  rw [item_is hc]
  refine way_of hc ?_ rfl
  unfold pieceL
  rw [if_neg (fun h => h1 h.1), if_neg (fun h => h1 h.1), if_pos (.inl h2)]
theorem way6 (h1 : (Txt.item x (i : Int) == Str.ofString ".") = false) (h2 : mkB run = true) (h3 : (Builtin.Str.occurrences (Str.ofString "\r\n") (Txt.item x (i : Int)) 0 (Str.ofString "\r\n").length 1).isEmpty = false)
    (h4 : (Txt.item x (i : Int) == Str.ofString "\r") = true) : dueAt x run i ++ Str.ofString "\r\n" = dueAt x run (i + 1) := by
  rw [item_is hc, sign_dot, decide_eq_false_iff_not] at h1
  rw [item_is hc, sign_eol, decide_eq_false_iff_not] at h3
  rw [item_is hc, sign_cr, decide_eq_true_eq] at h4
  refine way_of hc (y := [13, 10]) ?_ (by decide +kernel)
  unfold pieceL
  rw [if_neg (fun h => h1 h.1), if_neg (fun h => h1 h.1), if_neg (by rw [h2]; simp only [Bool.true_eq_false, false_or]; exact h3), if_pos (.inl h4)]
theorem way7 (h1 : (Txt.item x (i : Int) == Str.ofString ".") = false) (h2 : mkB run = true) (h3 : (Builtin.Str.occurrences (Str.ofString "\r\n") (Txt.item x (i : Int)) 0 (Str.ofString "\r\n").length 1).isEmpty = false)
    (h5 : (Txt.slice x (some ((i : Int) - 1)) (some (i : Int)) != Str.ofString "\r") = true) : dueAt x run i ++ Str.ofString "\r\n" = dueAt x run (i + 1) := by
  rw [item_is hc, sign_dot, decide_eq_false_iff_not] at h1
  rw [item_is hc, sign_eol, decide_eq_false_iff_not] at h3
  unfold bne at h5
  rw [slice_is hi, bef_cr, Bool.not_eq_true', decide_eq_false_iff_not] at h5
  refine way_of hc (y := [13, 10]) ?_ (by decide +kernel)
  unfold pieceL
  rw [if_neg (fun h => h1 h.1), if_neg (fun h => h1 h.1), if_neg (by rw [h2]; simp only [Bool.true_eq_false, false_or]; exact h3), if_pos (.inr h5)]
theorem way8 (h1 : (Txt.item x (i : Int) == Str.ofString ".") = false) (h2 : mkB run = true) (h3 : (Builtin.Str.occurrences (Str.ofString "\r\n") (Txt.item x (i : Int)) 0 (Str.ofString "\r\n").length 1).isEmpty = false)
    (h4 : (Txt.item x (i : Int) == Str.ofString "\r") = false) (h5 : (Txt.slice x (some ((i : Int) - 1)) (some (i : Int)) != Str.ofString "\r") = false) : dueAt x run i = dueAt x run (i + 1) := by
  rw [item_is hc, sign_dot, decide_eq_false_iff_not] at h1
  rw [item_is hc, sign_eol, decide_eq_false_iff_not] at h3
  rw [item_is hc, sign_cr, decide_eq_false_iff_not] at h4
  unfold bne at h5
  rw [slice_is hi, bef_cr, Bool.not_eq_false', decide_eq_true_eq] at h5
  have := way_of (run := run) (d := ⟨#[]⟩) hc (y := []) (by
    unfold pieceL
    rw [if_neg (fun h => h1 h.1), if_neg (fun h => h1 h.1), if_neg (by rw [h2]; simp only [Bool.true_eq_false, false_or]; exact h3), if_neg (by rintro (h | h); exact h4 h; exact h h5)]) rfl
  rw [← this]
  apply Str.ext'
  rw [Str.cps_append]
  simp
end
theorem due_whole (x : Str) (run : List Int) : dueAt x run x.length = dueS x run := by
  unfold dueAt dueS
  have : x.length = x.cps.toList.length := by rw [Array.length_toList]; rfl
  rw [this, duePre_all]
/-- what the frame holds between the turns of due's loop -/
structure DueM (x : Str) (t0 : Tok) (run : List Int) (D : Addr) (i : Nat) (m : Str → Option Value) : Prop where
  text : m (Str.ofString "text") = some (.str x t0)
  early : ∃ t, m (Str.ofString "early") = some (.int (earlyN run) t)
  late : ∃ t, m (Str.ofString "late") = some (.int (lateN run) t)
  making : m (Str.ofString "making") = some (.ref D)
  due : ∃ t, m (Str.ofString "due") = some (.str (dueAt x run i) t)
def TurnEnd (h₀ : Heap) (L : Addr) (J : (Str → Option Value) → Prop) (led : List (Addr × Obj)) (s₁ : Shared) (Q : Flow → Shared → Prop) (f : Flow) (s₂ : Shared) : Prop :=
  match f with
  | .ret v => Q (.ret v) s₂
  | .brk => Q .next s₂
  | _ => ∃ h' tk m', s₂ = { s₁ with heap := h', toks := tk } ∧ Fr h₀ L h' m' ∧ News h₀ L h' led ∧ J m'
theorem turn_end {h₀ : Heap} {L D : Addr} {all led : List (Addr × Obj)} {m' : Str → Option Value} {x d : Str} {run : List Int} {i : Nat} {t0 te tl td : Tok} {h' : Heap} {tk : Nat} {Q : Flow → Shared → Prop} (F : Fr h₀ L h' m') (N : News h₀ L h' all) (sub : ∀ p ∈ led, p ∈ all)
    (q1 : m' (Str.ofString "text") = some (.str x t0)) (q2 : m' (Str.ofString "early") = some (.int (earlyN run) te)) (q3 : m' (Str.ofString "late") = some (.int (lateN run) tl)) (q4 : m' (Str.ofString "making") = some (.ref D)) (q5 : m' (Str.ofString "due") = some (.str d td)) (e : d = dueAt x run (i + 1)) :
    TurnEnd h₀ L (DueM x t0 run D (i + 1)) led s Q .next { s with heap := h', toks := tk } :=
  ⟨h', tk, m', rfl, F, fun p hp => N p (sub p hp), ⟨q1, ⟨te, q2⟩, ⟨tl, q3⟩, q4, ⟨td, by rw [q5, e]⟩⟩⟩
theorem loop_due {h₀ : Heap} {env : Env} {body : List Stmt} {Q : Flow → Shared → Prop} {r D : Addr} {b₀ : Int} {t₀ u₀ v₀ t0 : Tok} {x : Str} {run : List Int} {m₀ : Str → Option Value} {news : List (Addr × Obj)} {ys : List Value}
    (hh : A.handled = none) (hr : IsRange s.heap r 0 b₀ 1 t₀ u₀ v₀) (hb : b₀ = (x.length : Int)) (hx : x.length ≤ 100) (F : Fr h₀ env.locals s.heap m₀) (N : News h₀ env.locals s.heap news) (hi : IntsAre ys (makL run)) (hD : (D, LCg.lst ys) ∈ news) (hJ : DueM x t0 run D 0 m₀)
    (turn : ∀ (i : Nat) (c : Nat) (I : Addr) (it : Obj) (t te tl td : Tok) (m : Str → Option Value) (h : Heap) (tk : Nat), i < x.length → x.cps.toList[i]? = some c → m (Str.ofString "text") = some (.str x t0) → m (Str.ofString "early") = some (.int (earlyN run) te) → m (Str.ofString "late") = some (.int (lateN run) tl) → m (Str.ofString "making") = some (.ref D) → m (Str.ofString "due") = some (.str (dueAt x run i) td) →
      (dueAt x run i).length ≤ 2000 → Fr h₀ env.locals h (fun y => if y = Str.ofString "place" then some (.int (i : Int) t) else m y) → News h₀ env.locals h ((I, it) :: news) →
      wpAny (model prog w) A (execs body env) (TurnEnd h₀ env.locals (DueM x t0 run D (i + 1)) ((I, it) :: news) { s with heap := h, toks := tk } Q) E { s with heap := h, toks := tk })
    (hlen : run.length ≤ 6)
    (done : ∀ m h tk, DueM x t0 run D x.length m → Fr h₀ env.locals h m → News h₀ env.locals h news → Q .next { s with heap := h, toks := tk }) :
    wpAny (model prog w) A (pyIter (.ref r)) (fun it s₂ => LoopAtV prog w A h₀ env (Str.ofString "place") body Q E it s₂) E s := by
  have hsmall : Builtin.Range.small 0 b₀ 1 = true := by
    subst hb
    exact small_one (by decide) (by decide) (by omega) (by omega)
  have hn : Builtin.Range.rangeSize 0 b₀ 1 = (x.length : Int) := by
    subst hb
    unfold Builtin.Range.rangeSize
    rw [if_pos (by decide)]
    split
    · rw [Int.ediv_one]; omega
    · omega
  refine iter_rangeUnr (n := x.length) hh hr hsmall hn F N fun I hI => ?_
  have key : ∀ (k i : Nat) (m : Str → Option Value), i + k = x.length → DueM x t0 run D i m → RangeRest prog w A E h₀ env (Str.ofString "place") body Q s I 0 x.length k i m news := by
    intro k
    induction k with
    | zero =>
      intro i m hi' hJ'
      have : i = x.length := by omega
      subst this
      exact RangeRest.zero fun h tk F' N' => done m h tk hJ' F' N'
    | succ k ih =>
      intro i m hi' hJ'
      refine RangeRest.succ fun t h tk F' N' => ?_
      obtain ⟨q1, ⟨te, q2⟩, ⟨tl, q3⟩, q4, ⟨td, q5⟩⟩ := hJ'
      have hlt : i < x.length := by omega
      have hlt' : i < x.cps.toList.length := by rw [Array.length_toList]; exact hlt
      have hc : x.cps.toList[i]? = some (x.cps.toList[i]'hlt') := List.getElem?_eq_getElem _
      have hsz : (dueAt x run i).length ≤ 2000 := by
        have h1 := duePre_len x.cps.toList run i (Nat.le_of_lt hlt')
        have h2 := early_le run
        have h3 := late_le run
        show (duePre x.cps.toList run i).toArray.size ≤ 2000
        rw [List.size_toArray]
        have h4 : i * (2 + earlyN run + lateN run) ≤ 100 * 14 := Nat.mul_le_mul (by omega) (by omega)
        omega
      have e0 : (0 : Int) + (i : Int) = (i : Int) := by omega
      rw [e0] at F'
      refine wpAny_mono (turn i _ I _ t te tl td m h tk hlt hc q1 q2 q3 q4 q5 hsz F' N') (fun f s₂ hp => ?_) fun _ _ e => e
      have fin : (∃ h' tk' m', s₂ = { s with heap := h', toks := tk' } ∧ Fr h₀ env.locals h' m' ∧ News h₀ env.locals h' ((I, itR (0 + ((i + 1 : Nat) : Int)) ((x.length : Int) - ((i + 1 : Nat) : Int))) :: news) ∧ DueM x t0 run D (i + 1) m') →
          UnrEnd h₀ env.locals { s with heap := h, toks := tk } I (itR (0 + ((i + 1 : Nat) : Int)) ((x.length : Int) - ((i + 1 : Nat) : Int))) (RangeRest prog w A E h₀ env (Str.ofString "place") body Q s I 0 x.length k (i + 1)) s₂ := by
        rintro ⟨h', tk', m', rfl, F2, N2, J2⟩
        exact ⟨h', tk', m', news, rfl, F2, N2, fun p hp => Nat.ne_of_lt (hI p hp), ih (i + 1) m' (by omega) J2⟩
      cases f with
      | ret v => exact hp
      | brk => exact hp
      | next => exact fin hp
      | cont => exact fin hp
  exact key x.length 0 m₀ (by omega) hJ
theorem cut_early {h₀ : Heap} {L l : Addr} {m : Str → Option Value} {news : List (Addr × Obj)} {value slice : PySem.Expr} {vs : List Value} {run : List Int} {t : Tok} {Q : Value → Shared → Prop} (F : Fr h₀ L s.heap m) (N : News h₀ L s.heap news) (hl : s.heap.IsList l vs.toArray) (hi : IntsAre vs run) (hlen : run.length ≤ 6)
    (h : ∀ D ws h', Fr h₀ L h' m → News h₀ L h' ((D, W.listOf (List.toArray ws) 0) :: news) → (∀ p ∈ news, p.1 < D) → IntsAre ws (run.drop (earlyN run)) → (run.drop (earlyN run)).length ≤ 6 → Q (.ref D) { s with heap := h' })
    (hs : subscripted slice false (.ref l) (.ref s.heap.objs.size) = operate [.ref s.heap.objs.size, .ref l] (getItem (.ref l) (.ref s.heap.objs.size))) (ht : ∀ r, letTemporaryGo value (.ref l) r = pure ()) :
    wpAny (model prog w) A (subscriptTail value slice (.ref l) (.ref s.heap.objs.size)) Q E { s with heap := s.heap.push { cls := .type "slice", data := .fields #[.int (earlyN run) t, .none, .none] } } := by
  have hz := hi.length
  refine kmk_slice_ints (ms := run.drop (earlyN run)) F N hl (IsPart.int _ _) IsPart.none hi ?_ rfl (fun D ws h' F' N' l1 hI _ _ => h D ws h' F' N' l1 hI (by rw [List.length_drop]; omega)) hs ht (by rw [List.size_toArray, sizeLine_eq]; omega)
  have := kmk_from (x := (earlyN run : Int)) hi (by omega)
  simpa using this
end
local macro_rules | `(tactic| walk_at "subscriptTail Name Slice ref ref") => `(tactic| (k_here; (with_reducible show wpAny _ _ (subscriptTail _ (PySem.Expr.Slice (some _) none none _) (Value.ref _) (Value.ref _)) _ _ _); k_dflt (refine' cut_early ?kF ?kN ?kl ?ki ?ke ?_ ?ks ?kt; (case kF => k_asm); (case kN => k_asm); (case kl => is_list); (case ki => assumption); (case ke => assumption); (case ks => with_unfolding_all rfl); (case kt => kmk_pure)); intro D' ws' h' F' N' l1 hI' hL'; (try k_lt l1); (try k_sweep)))
local macro_rules | `(tactic| walk_at "call builtin:len") => `(tactic| (k_here; (with_reducible show wpAny _ _ (call (Value.builtin "len") [Value.ref _]) _ _ _); k_dflt (refine' len_late ?k1 ?k2 ?k4 ?_; (case k1 => assumption); (case k2 => assumption); (case k4 => assumption); k_whole; intro t9 tk9)))
local macro_rules | `(tactic| walk_at "eval IfExp") => `(tactic| (k_here; (with_reducible show wpAny _ _ (eval (Expr.IfExp _ _ _ _) _) _ _ _); (fail_if_success (with_reducible show wpAny _ _ _ (EarlyEnd _ _ _ _ _ _) _ _)); k_dflt (refine' early_mid ?kF ?kN ?ki ?_ ?_; (case kF => k_asm); (case kN => k_asm); (case ki => assumption)); rotate_left; intro t9 h9 tk9 F9 N9; rotate_left))
local macro_rules | `(tactic| walk_at "EarlyEnd") => `(tactic| (refine EarlyEnd.intro (by assumption) (by assumption) ?_; first | (exact fun p hp => hp) | (exact fun p hp => List.mem_cons_of_mem _ hp)))
local macro_rules | `(tactic| walk_at "eval Name") => `(tactic| (k_here; k_dflt (refine' nameX_L ?k1 ?k2 ?_ ?k3 ?k4 ?k5; (case k1 => k_asm); (case k2 => assumption); (case k3 => exact rfl); (case k4 => exact rfl); (case k5 => decide); k_whole)))
local macro_rules | `(tactic| walk_at "loadName") => `(tactic| (k_here; k_dflt (refine' loadX ?k1 ?k2 ?_ ?k3 ?k4; (case k1 => k_asm); (case k2 => assumption); (case k3 => exact rfl); (case k4 => exact rfl); k_whole)))
local macro_rules | `(tactic| walk_at "CompEnd") => `(tactic| (refine LCg.CompEnd.intro (by assumption) (by assumption) _ (fun p hp => hp) (by assumption) (by first | trivial | assumption) ?_))
local macro_rules | `(tactic| walk_at "compareOp NotEq ref ref") => `(tactic| (k_here; (with_reducible show wpAny _ _ (compareOp CmpOp.NotEq (Value.ref _) (Value.ref _)) _ _ _); k_dflt (refine' mak_ne ?k1 ?k2 ?k3 ?k4 ?_; (case k1 => is_list); (case k2 => assumption); (case k3 => is_list); (case k4 => ktr_units); k_whole)))
local macro_rules | `(tactic| walk_at "compareOp Eq ref ref") => `(tactic| (k_here; (with_reducible show wpAny _ _ (compareOp CmpOp.Eq (Value.ref _) (Value.ref _)) _ _ _); k_dflt (refine' mak_eqv ?k1 ?k2 ?k3 ?k4 ?_; (case k2 => assumption); (case k1 => first | is_list | exact list_in (by k_asm) (by simp)); (case k3 => first | is_list | exact nil_in (by k_asm) (by simp)); (case k4 => ktr_units); k_whole)))
local macro_rules | `(tactic| walk_at "binaryOp Mult") => `(tactic| (k_here; (with_reducible show wpAny _ _ (binaryOp Operator.Mult (Value.str _ _) (Value.int _ _)) _ _ _); k_dflt (refine' mul_dots ?k1 ?k2 ?_; (case k1 => omega); (case k2 => omega); k_whole; intro t9 tk9)))
local macro_rules | `(tactic| walk_at "pyIter ref") => `(tactic| ((with_reducible show wpAny _ _ (pyIter (Value.ref _)) (fun it s₂ => LoopAtV _ _ _ _ _ _ _ _ _ it s₂) _ _); refine stop_here ?_))
local macro_rules | `(tactic| walk_at "subscriptTail") => `(tactic| (k_here; (with_reducible show wpAny _ _ (subscriptTail _ _ (Value.ref _) (Value.int 0 _)) _ _ _); k_dflt (refine' mak_item ?k1 ?k2 ?k3 ?_ ?k5; (case k1 => is_list); (case k2 => assumption); (case k3 => assumption); (case k5 => with_unfolding_all rfl); k_whole; intro t9)))
local macro_rules | `(tactic| walk_at "call builtin:len") => `(tactic| (k_here; (with_reducible show wpAny _ _ (call (Value.builtin "len") [Value.ref _]) _ _ _); k_dflt (refine' len_early ?k1 ?k2 ?k3 ?k4 ?_; (case k1 => is_list); (case k2 => assumption); (case k3 => assumption); (case k4 => assumption); k_whole; intro t9 tk9)))

theorem due_claim (w : World) (mean : ExcName → Option Value) (mg mb : Str → Option Value) (x : Str) (t0 : Tok) (l : Addr) (n : Nat) (vs : List Value) (run : List Int) (news : List (Addr × Obj)) (hI : IntsAre vs run) (hlen : run.length ≤ 6) (hx : x.length ≤ 100) :
    CcClaim 16 PySem.Challenge.rw_nb0382_01.row.prog w (hd.heap_39 w.params) hd.view_39 LS mean mg mb 84 ((l, W.listOf vs.toArray n) :: news) True [.str x t0, .ref l] (fun t => .str (dueS x run) t) := by
  k_fill
  dsimp only [CcClaim, CbRet]; intros; rename_i hpre _ _ hret
  refine wpAny_call ?_
  k_dflt (refine' code_defC ?k1 ?k2 ?k3 ?k4 ?k5 ?kA ?kF ?kK ?k6 ?k7 ?k8 ?k9 ?kB ?kD ?_ ?c2 ?c3 ?c4; (case kA => exact rfl); (case kF => exact rfl); (case kK => assumption); (case k1 => k_asm); (case k2 => k_asm); (case k3 => k_asm); (case k4 => k_asm); (case k5 => k_asm); (case k6 => k_is); (case k7 => k_is); (case k8 => ktr_room); (case k9 => exact BindsTo.of_eq rfl); (case kB => exact rfl); (case kD => decide +kernel); (case c2 => exact rfl); (case c3 => exact rfl); (case c4 => exact rfl); k_whole; intro g' L' h' tk' cells' FG' F' N' Y' B' X' T' l1; (replace F' : Fr g' L' h' (fun y => if y = Str.ofString "text" then some (Value.str x t0) else none) := F'); (try k_lt l1); k_cells Y'; (try simp only [List.cons_append, List.nil_append] at N'); (try dsimp only); (try k_lift B'); (try k_fold))
  have hE := early_le run
  have hLt := late_le run
  k_steps
  all_goals (try k_data)
  unfold StopAt
  k_dflt (refine' loop_due ?kh ?kr ?kb ?kx ?kF ?kN ?ki ?kD ?kJ ?kt ?kl ?kd)
  (case kh => exact rfl)
  (case ki => assumption)
  (case kF => k_asm)
  (case kN => k_asm)
  (case kr => assumption)
  (case kb => first | exact rfl | omega)
  (case kx => assumption)
  (case kl => assumption)
  (case kJ => exact ⟨rfl, ⟨_, rfl⟩, ⟨_, rfl⟩, rfl, ⟨_, rfl⟩⟩)
  (case kD => simp)
  case kd =>
    intro m9 h9 tk9 J9 F9 N9
    obtain ⟨q1, _, _, _, ⟨td9, q5⟩⟩ := J9
    dsimp only
    k_steps
    all_goals (try k_data)
    all_goals (refine' cb_retS hret ?e1 ?e2 ?e3; (case e2 => k_asm); (case e3 => first | k_asm | (refine cb_drop (by assumption) ?_; intro p hp; repeat (first | exact hp | apply List.mem_cons_of_mem))); (case e1 => exact due_whole x run))
  case kt =>
    intro i9 c9 I9 it9 t9 te9 tl9 td9 m9 h9 tk9 hi9 hc9 q1 q2 q3 q4 q5 hz9 F9 N9
    k_steps
    all_goals (try k_data)
    all_goals first
      | (exfalso; exact way_no hi9 hc9 (by with_reducible assumption) (by with_reducible assumption))
      | (refine' turn_end ?tF ?tN ?ts ?t1 ?t2 ?t3 ?t4 ?t5 ?te
         (case tF => assumption)
         (case tN => assumption)
         (case ts => (intro p hp; repeat (first | exact hp | apply List.mem_cons_of_mem)))
         (case t1 => exact q1)
         (case t2 => exact q2)
         (case t3 => exact q3)
         (case t4 => exact q4)
         (case t5 => first | exact rfl | exact q5)
         (case te => first | exact way1 hi9 hc9 (by with_reducible assumption) (by with_reducible assumption) | exact way2 hi9 hc9 (by with_reducible assumption) (by with_reducible assumption) (by with_reducible assumption) | exact way3 hi9 hc9 (by with_reducible assumption) (by with_reducible assumption) (by with_reducible assumption) | exact way4 hi9 hc9 (by with_reducible assumption) (by with_reducible assumption) | exact way5 hi9 hc9 (by with_reducible assumption) (by with_reducible assumption) | exact way6 hi9 hc9 (by with_reducible assumption) (by with_reducible assumption) (by with_reducible assumption) (by with_reducible assumption) | exact way7 hi9 hc9 (by with_reducible assumption) (by with_reducible assumption) (by with_reducible assumption) (by with_reducible assumption) | exact way8 hi9 hc9 (by with_reducible assumption) (by with_reducible assumption) (by with_reducible assumption) (by with_reducible assumption) (by with_reducible assumption)))
end Mine
end
namespace Mine
theorem calmW8 : True := by
  w_top off
  trivial
end Mine
section
open PySem PySem.W PyProof.Rows
set_option maxRecDepth 100000
set_option maxHeartbeats 8000000
namespace Mine
open PySem PySem.Sre PySem.Builtin.Re
theorem filter_ints {vs : List Value} {ns : List Int} (hi : IntsAre vs ns) : ∀ l : List Nat, ∃ ms, IntsAre (l.filterMap (vs.toArray[·]?)) ms := by
  intro l
  induction l with
  | nil => exact ⟨[], .nil⟩
  | cons k r ih =>
    obtain ⟨ms, h⟩ := ih
    rw [List.filterMap_cons]
    cases hk : vs.toArray[k]? with
    | none => exact ⟨ms, h⟩
    | some v =>
      obtain ⟨n, t, rfl, _⟩ := IntsAre.at hi k v (by simpa using hk)
      exact ⟨n :: ms, .cons _ _ h⟩
theorem sum_pick {prog : Program} {w : World} {A : Around} {E : Value → Shared → Prop} {s : Shared} {h₀ : Heap} {L D : Addr} {m : Str → Option Value} {news : List (Addr × Obj)} {vs : List Value} {ns : List Int} {lo hi st : Option Int} {n : Nat} {Q : Value → Shared → Prop}
    (F : Fr h₀ L s.heap m) (N : News h₀ L s.heap ((D, ({ cls := .type "list", data := .seq (slicePick vs.toArray lo hi st) n } : Obj)) :: news)) (hh : A.handled = none) (hI : IntsAre vs ns)
    (h : ∀ z h' tk t', Fr h₀ L h' m → News h₀ L h' news → Q (.int z t') { s with heap := h', toks := tk }) : wpAny (model prog w) A (call (.builtin "sum") [.ref D]) Q E s := by
  obtain ⟨ms, hms⟩ := filter_ints hI (sliceRange (sliceBounds lo hi st vs.toArray.size).1 (sliceBounds lo hi st vs.toArray.size).2.1 (sliceBounds lo hi st vs.toArray.size).2.2)
  have hl : s.heap.IsList D ((sliceRange (sliceBounds lo hi st vs.toArray.size).1 (sliceBounds lo hi st vs.toArray.size).2.1 (sliceBounds lo hi st vs.toArray.size).2.2).filterMap (vs.toArray[·]?)).toArray := ⟨_, (N _ (List.mem_cons_self ..)).1, rfl, n, rfl⟩
  exact LSm.sum_ints F (news_off N) hh hl hms fun h' tk t' F' N' => h _ h' tk t' F' N'
theorem fmod_nat (z : Int) : (z.fmod 256).toNat < 256 := by
  have h1 := Int.fmod_nonneg_of_pos z (b := 256) (by decide)
  have h2 := Int.fmod_lt_of_pos z (b := 256) (by decide)
  omega
theorem small_text {y : Str} (h : (decide (y.length ≤ 2) && y.cps.toList.all (· < 256)) = true) : y.length ≤ 2 ∧ below y.cps := by
  simp only [Bool.and_eq_true, decide_eq_true_eq, List.all_eq_true] at h
  exact ⟨h.1, fun c hc => by simpa using h.2 c hc⟩
theorem menu_item {prog : Program} {w : World} {A : Around} {E : Value → Shared → Prop} {s : Shared} {h₀ : Heap} {L D : Addr} {news : List (Addr × Obj)} {value slice : PySem.Expr} {k : Int} {u t1 t2 t3 t4 t5 t6 t7 : Tok} {n : Nat} {Q : Value → Shared → Prop}
    (N : News h₀ L s.heap ((D, W.listOf #[.str (Str.ofString ".") t1, .str (Str.ofString "\r") t2, .str (Str.ofString "\n") t3, .str (Str.ofString "\r.") t4, .str (Str.ofString "\n.") t5, .str (Str.ofString "\r\n") t6, .str ⟨#[n]⟩ t7] 0) :: news))
    (h0 : 0 ≤ k) (h7 : k < 7) (hn : n < 256) (h : ∀ y t, y.length ≤ 2 → below y.cps → Q (.str y t) s)
    (hs : subscripted slice false (.ref D) (.int k u) = operate [.ref D, .int k u] (getItem (.ref D) (.int k u))) :
    wpAny (model prog w) A (subscriptTail value slice (.ref D) (.int k u)) Q E s := by
  have hl : s.heap.IsList D [Value.str (Str.ofString ".") t1, .str (Str.ofString "\r") t2, .str (Str.ofString "\n") t3, .str (Str.ofString "\r.") t4, .str (Str.ofString "\n.") t5, .str (Str.ofString "\r\n") t6, .str ⟨#[n]⟩ t7].toArray := ⟨_, (N _ (List.mem_cons_self ..)).1, rfl, 0, rfl⟩
  have hk : k = 0 ∨ k = 1 ∨ k = 2 ∨ k = 3 ∨ k = 4 ∨ k = 5 ∨ k = 6 := by omega
  have fin : ∀ (y : Str) (t : Tok), ([Value.str (Str.ofString ".") t1, .str (Str.ofString "\r") t2, .str (Str.ofString "\n") t3, .str (Str.ofString "\r.") t4, .str (Str.ofString "\n.") t5, .str (Str.ofString "\r\n") t6, .str ⟨#[n]⟩ t7] : List Value)[k.toNat]? = some (.str y t) → y.length ≤ 2 ∧ below y.cps → wpAny (model prog w) A (subscriptTail value slice (.ref D) (.int k u)) Q E s :=
    fun y t hx hy => tail_any hl.typeIs slot_list_getitem.lookup (wpAny_getItem_list hl h0 (by omega) (by simpa using hx) (h y t hy.1 hy.2)) hs
  rcases hk with rfl | rfl | rfl | rfl | rfl | rfl | rfl
  · exact fin _ _ rfl (small_text (by decide +kernel))
  · exact fin _ _ rfl (small_text (by decide +kernel))
  · exact fin _ _ rfl (small_text (by decide +kernel))
  · exact fin _ _ rfl (small_text (by decide +kernel))
  · exact fin _ _ rfl (small_text (by decide +kernel))
  · exact fin _ _ rfl (small_text (by decide +kernel))
  · exact fin _ _ rfl ⟨by show 1 ≤ 2; decide, fun c hc => by simp at hc; omega⟩
local macro_rules | `(tactic| walk_at "subscriptTail") => `(tactic| (k_here; (with_reducible show wpAny _ _ (subscriptTail (PySem.Expr.List _ _) _ (Value.ref _) (Value.int _ _)) _ _ _); k_dflt (refine' menu_item ?kN ?k0 ?k7 ?kn ?_ ?ks; (case kN => k_asm); (case k0 => exact Int.fmod_nonneg_of_pos _ (by decide)); (case k7 => exact Int.fmod_lt_of_pos _ (by decide)); (case kn => exact fmod_nat _); (case ks => with_unfolding_all rfl); k_whole; intro y9 t9 hy9 hb9)))
local macro_rules | `(tactic| walk_at "call builtin:sum") => `(tactic| (k_here; (with_reducible show wpAny _ _ (call (Value.builtin "sum") [Value.ref _]) _ _ _); k_dflt (refine' sum_pick ?kF ?kN ?kh ?kI ?_; (case kF => k_asm); (case kN => k_asm); (case kh => exact rfl); (case kI => assumption); k_whole; intro z9 h9 tk9 t9 F9 N9)))
def DrawnRet (h₀ : Heap) (L : Addr) (m : Str → Option Value) (s : Shared) (Q : Value → Shared → Prop) : Prop :=
  ∀ (T lr : Addr) (x : Str) (t : Tok) (us : List Value) (run : List Int) (n : Nat) (h' : Heap) (tk : Nat), Fr h₀ L h' m →
    News h₀ L h' [(T, ({ cls := .type "tuple", data := .seq #[.str x t, .ref lr] } : Obj)), (lr, W.listOf us.toArray n)] → lr < T → IntsAre us run → run.length = 6 → (∀ d ∈ run, 0 ≤ d ∧ d ≤ 2) → x.length ≤ 12 → below x.cps →
    Q (.ref T) { s with heap := h', toks := tk }
theorem mod_three (z : Int) : 0 ≤ z.fmod 3 ∧ z.fmod 3 ≤ 2 := by
  have h1 := Int.fmod_nonneg_of_pos z (b := 3) (by decide)
  have h2 := Int.fmod_lt_of_pos z (b := 3) (by decide)
  omega
theorem grow {a y : Str} {n : Nat} (ha : a.length ≤ n ∧ below a.cps) (h1 : y.length ≤ 2) (h2 : below y.cps) : (a ++ y).length ≤ n + 2 ∧ below (a ++ y).cps := by
  have e : (a ++ y).cps = a.cps ++ y.cps := Str.cps_append _ _
  constructor
  · show (a ++ y).cps.size ≤ n + 2
    rw [e, Array.size_append]
    have h3 : a.cps.size ≤ n := ha.1
    have h4 : y.cps.size ≤ 2 := h1
    omega
  · rw [e]
    intro c hc
    simp only [Array.toList_append, List.mem_append] at hc
    rcases hc with hc | hc
    · exact ha.2 c hc
    · exact h2 c hc
theorem drawn_end {h₀ : Heap} {L T lr : Addr} {m : Str → Option Value} {s : Shared} {Q : Value → Shared → Prop} {h' : Heap} {tk n : Nat} {y1 y2 y3 y4 y5 y6 : Str} {t t1 t2 t3 t4 t5 t6 : Tok} {z1 z2 z3 z4 z5 z6 : Int} {a1 a2 a3 a4 a5 a6 a7 : Addr × Obj} {p1 p2 p3 p4 p5 p6 p7 : Prop}
    (ret : DrawnRet h₀ L m s Q) (F : Fr h₀ L h' m)
    (N : News h₀ L h' [(T, ({ cls := .type "tuple", data := .seq #[.str (Str.ofString "" ++ y1 ++ y2 ++ y3 ++ y4 ++ y5 ++ y6) t, .ref lr] } : Obj)), a1, a2, a3, a4, a5, a6, a7,
      (lr, W.listOf ((((((#[].push (.int (z1.fmod 3) t1)).push (.int (z2.fmod 3) t2)).push (.int (z3.fmod 3) t3)).push (.int (z4.fmod 3) t4)).push (.int (z5.fmod 3) t5)).push (.int (z6.fmod 3) t6)) n)])
    (lt : p1 ∧ p2 ∧ p3 ∧ p4 ∧ p5 ∧ p6 ∧ p7 ∧ lr < T) (h1 : y1.length ≤ 2) (b1 : below y1.cps) (h2 : y2.length ≤ 2) (b2 : below y2.cps) (h3 : y3.length ≤ 2) (b3 : below y3.cps) (h4 : y4.length ≤ 2) (b4 : below y4.cps) (h5 : y5.length ≤ 2) (b5 : below y5.cps) (h6 : y6.length ≤ 2) (b6 : below y6.cps) :
    Q (.ref T) { s with heap := h', toks := tk } := by
  have g0 : (Str.ofString "").length ≤ 0 ∧ below (Str.ofString "").cps := by
    have he : (Str.ofString "") = ⟨#[]⟩ := by decide +kernel
    rw [he]
    exact ⟨Nat.le_refl 0, fun c hc => by simp at hc⟩
  have g := grow (grow (grow (grow (grow (grow g0 h1 b1) h2 b2) h3 b3) h4 b4) h5 b5) h6 b6
  refine ret T lr _ t [.int (z1.fmod 3) t1, .int (z2.fmod 3) t2, .int (z3.fmod 3) t3, .int (z4.fmod 3) t4, .int (z5.fmod 3) t5, .int (z6.fmod 3) t6] [z1.fmod 3, z2.fmod 3, z3.fmod 3, z4.fmod 3, z5.fmod 3, z6.fmod 3] n h' tk F ?_ lt.2.2.2.2.2.2.2 ?_ rfl ?_ g.1 g.2
  · intro p hp
    rcases List.mem_cons.mp hp with rfl | hp
    · exact N _ (List.mem_cons_self ..)
    · rw [List.mem_singleton.mp hp]
      exact N _ (by simp)
  · exact .cons _ _ (.cons _ _ (.cons _ _ (.cons _ _ (.cons _ _ (.cons _ _ .nil)))))
  · intro d hd
    simp only [List.mem_cons, List.not_mem_nil, or_false] at hd
    rcases hd with rfl | rfl | rfl | rfl | rfl | rfl <;> exact mod_three _
theorem drawn_claim {w : World} {mean : ExcName → Option Value} {mg mb : Str → Option Value} {l : Addr} {vs : List Value} {ns : List Int} (hI : IntsAre vs ns) (hlen : ns.length ≤ 63)
    {dp un : Nat} {gd : Option (List Code)} {cn : Str} {cs : Scope} {a : Addr} {ccd : Value} {cl : List (Str × Addr)} {outer : List Env} {A₀ : Around} {base h₀ : Heap} {L : Addr} {m : Str → Option Value} {s : Shared} {Q E : Value → Shared → Prop}
    (B : Below A₀ base outer h₀) (F : Fr h₀ L s.heap m) (X : (hd.heap_39 w.params).In h₀) (N : News h₀ L s.heap []) (T : Top hd.view_39 LS mean mg mb h₀) (hk : cs.kind = .function)
    (hl : base.IsList l vs.toArray) (hd1 : dp + 16 < recursionLimit) (hu : un + 8 * 16 < cLine) (ret : DrawnRet h₀ L m s Q) :
    wpAny (model PySem.Challenge.rw_nb0382_01.row.prog w) (ktrTop dp un gd cn cs L a ccd cl outer) (call (.ref 74) [.ref l]) Q E s := by
  revert X
  k_fill
  intro X
  refine wpAny_call ?_
  k_dflt cell_enter
  k_steps
  exact drawn_end ret (by assumption) (by assumption) (by assumption) (by assumption) (by assumption) (by assumption) (by assumption) (by assumption) (by assumption) (by assumption) (by assumption) (by assumption) (by assumption) (by assumption) (by assumption)
end Mine
end
namespace Mine
theorem calmW9 : True := by
  w_top off
  trivial
end Mine
section
open PySem PySem.W PyProof.Rows
set_option maxRecDepth 100000
set_option maxHeartbeats 8000000
namespace Mine
open PySem PySem.Sre PySem.Builtin.Re
section
variable {prog : Program} {w : World} {A : Around} {E : Value → Shared → Prop} {s : Shared}
theorem loop_rng {h₀ : Heap} {env : Env} {body : List Stmt} {Q : Flow → Shared → Prop} {name : Str} {r : Addr} {a b : Int} {t₀ u₀ v₀ : Tok} {n : Nat} {m₀ : Str → Option Value} {news : List (Addr × Obj)} {J : Nat → (Str → Option Value) → Prop}
    (hh : A.handled = none) (hr : IsRange s.heap r a b 1 t₀ u₀ v₀) (ha : 0 ≤ a) (hb : b = 6) (hn : a + (n : Int) = 6) (F : Fr h₀ env.locals s.heap m₀) (N : News h₀ env.locals s.heap news) (hJ : J 0 m₀)
    (turn : ∀ (i : Nat) (k : Int) (I : Addr) (it : Obj) (t : Tok) (m : Str → Option Value) (h : Heap) (tk : Nat), i < n → k = a + (i : Int) → J i m → (∀ p ∈ news, p.1 < I) →
      Fr h₀ env.locals h (fun y => if y = name then some (.int k t) else m y) → News h₀ env.locals h ((I, it) :: news) →
      wpAny (model prog w) A (execs body env) (TurnEnd h₀ env.locals (J (i + 1)) ((I, it) :: news) { s with heap := h, toks := tk } Q) E { s with heap := h, toks := tk })
    (done : ∀ m h tk, J n m → Fr h₀ env.locals h m → News h₀ env.locals h news → Q .next { s with heap := h, toks := tk }) :
    wpAny (model prog w) A (pyIter (.ref r)) (fun it s₂ => LoopAtV prog w A h₀ env name body Q E it s₂) E s := by
  have hsmall : Builtin.Range.small a b 1 = true := by
    subst hb
    exact small_one (by omega) (by omega) (by omega) (by omega)
  have hsz : Builtin.Range.rangeSize a b 1 = (n : Int) := by
    subst hb
    unfold Builtin.Range.rangeSize
    rw [if_pos (by decide)]
    split
    · rw [Int.ediv_one]; omega
    · omega
  refine iter_rangeUnr (n := n) hh hr hsmall hsz F N fun I hI => ?_
  have key : ∀ (k i : Nat) (m : Str → Option Value), i + k = n → J i m → RangeRest prog w A E h₀ env name body Q s I a n k i m news := by
    intro k
    induction k with
    | zero =>
      intro i m hi' hJ'
      have : i = n := by omega
      subst this
      exact RangeRest.zero fun h tk F' N' => done m h tk hJ' F' N'
    | succ k ih =>
      intro i m hi' hJ'
      refine RangeRest.succ fun t h tk F' N' => ?_
      refine wpAny_mono (turn i _ I _ t m h tk (by omega) rfl hJ' hI F' N') (fun f s₂ hp => ?_) fun _ _ e => e
      have fin : (∃ h' tk' m', s₂ = { s with heap := h', toks := tk' } ∧ Fr h₀ env.locals h' m' ∧ News h₀ env.locals h' ((I, itR (a + ((i + 1 : Nat) : Int)) ((n : Int) - ((i + 1 : Nat) : Int))) :: news) ∧ J (i + 1) m') →
          UnrEnd h₀ env.locals { s with heap := h, toks := tk } I (itR (a + ((i + 1 : Nat) : Int)) ((n : Int) - ((i + 1 : Nat) : Int))) (RangeRest prog w A E h₀ env name body Q s I a n k (i + 1)) s₂ := by
        rintro ⟨h', tk', m', rfl, F2, N2, J2⟩
        exact ⟨h', tk', m', news, rfl, F2, N2, fun p hp => Nat.ne_of_lt (hI p hp), ih (i + 1) m' (by omega) J2⟩
      cases f with
      | ret v => exact hp
      | brk => exact hp
      | next => exact fin hp
      | cont => exact fin hp
  exact key n 0 m₀ (by omega) hJ
/-- what the frame holds between the turns of the outer loop -/
structure OutM (x : Str) (t0 : Tok) (lr : Addr) (m : Str → Option Value) : Prop where
  text : m (Str.ofString "text") = some (.str x t0)
  runs : m (Str.ofString "run") = some (.ref lr)
/-- what it holds between the turns of the inner one: told is what is due -/
structure InM (x : Str) (t0 : Tok) (lr : Addr) (run : List Int) (i : Nat) (k : Int) (ts : Tok) (j : Nat) (m : Str → Option Value) : Prop where
  text : m (Str.ofString "text") = some (.str x t0)
  runs : m (Str.ofString "run") = some (.ref lr)
  start : m (Str.ofString "start") = some (.int k ts)
  told : ∃ t, m (Str.ofString "told") = some (.str (dueS x ((run.drop i).take j)) t)
theorem step_done {x : Str} {run : List Int} {i j : Nat} {p k d : Int} (hd : run[p.toNat]? = some d) (hk : k = 0 + (i : Int)) (hp : p = k + (j : Int)) (hb : ∀ d ∈ run, 0 ≤ d ∧ d ≤ 2) :
    doneS d (dueS x ((run.drop i).take j)) = dueS x ((run.drop i).take (j + 1)) := by
  have e : p.toNat = i + j := by omega
  rw [e] at hd
  have h1 : (run.drop i)[j]? = some d := by rw [List.getElem?_drop]; exact hd
  have h2 : (run.drop i).take (j + 1) = (run.drop i).take j ++ [d] := by rw [List.take_add_one, h1]; rfl
  have h3 := hb d (List.mem_of_getElem? hd)
  unfold doneS dueS
  rw [h2]
  simp only
  rw [done_due _ _ _ h3]
theorem due_start_is (x : Str) (run : List Int) (i : Nat) : dueS x ((run.drop i).take 0) = x := by
  unfold dueS
  rw [List.take_zero, due_nil]
theorem due_fits {x : Str} {run : List Int} (hx : x.length ≤ 12) (hr : run.length ≤ 6) : (dueS x run).length ≤ 2 ^ 19 := by
  have hx' : x.cps.toList.length ≤ 12 := by rw [Array.length_toList]; exact hx
  have h1 := duePre_len x.cps.toList run x.cps.toList.length (Nat.le_refl _)
  rw [duePre_all] at h1
  have h2 := early_le run
  have h3 := late_le run
  show (dueRun x.cps.toList run).toArray.size ≤ 2 ^ 19
  rw [List.size_toArray]
  have h4 : x.cps.toList.length * (2 + earlyN run + lateN run) ≤ 12 * 14 := Nat.mul_le_mul hx' (by omega)
  omega
theorem due_below {x : Str} {run : List Int} (hx : below x.cps) (hb : ∀ d ∈ run, 0 ≤ d ∧ d ≤ 2) (i : Nat) : ∀ j : Nat, below (dueS x ((run.drop i).take j)).cps := by
  intro j
  induction j with
  | zero => rw [due_start_is]; exact hx
  | succ j ih =>
    cases hd : run[i + j]? with
    | none =>
      have h1 : (run.drop i)[j]? = none := by rw [List.getElem?_drop]; exact hd
      have h2 : (run.drop i).take (j + 1) = (run.drop i).take j := by rw [List.take_add_one, h1]; simp
      rw [h2]; exact ih
    | some d =>
      have h3 := step_done (x := x) (run := run) (i := i) (j := j) (p := ((i + j : Nat) : Int)) (k := (i : Int)) (d := d) (by rw [Int.toNat_natCast]; exact hd) (by omega) (by omega) hb
      rw [← h3]
      unfold below doneS
      simp only
      exact done_below ih
theorem step_told {x : Str} {run : List Int} {i j : Nat} {p k : Int} (hr : run.length = 6) (h6 : p < 6) (hk : k = 0 + (i : Int)) (hp : p = k + (j : Int)) (hb : ∀ d ∈ run, 0 ≤ d ∧ d ≤ 2) :
    doneS (run.getD p.toNat 0) (dueS x ((run.drop i).take j)) = dueS x ((run.drop i).take (j + 1)) := by
  refine step_done (p := p) (k := k) ?_ hk hp hb
  have h : run[p.toNat]? = some (run[p.toNat]'(by omega)) := List.getElem?_eq_getElem (by omega)
  rw [List.getD_eq_getElem?_getD, h]
  rfl
theorem cut_run {h₀ : Heap} {L lr : Addr} {m : Str → Option Value} {news : List (Addr × Obj)} {value slice : PySem.Expr} {us : List Value} {run : List Int} {i j : Nat} {k p : Int} {t u : Tok} {Q : Value → Shared → Prop} (F : Fr h₀ L s.heap m) (N : News h₀ L s.heap news) (hl : s.heap.IsList lr us.toArray) (hi : IntsAre us run) (hr : run.length = 6) (hk : k = 0 + (i : Int)) (hp : p = k + (j : Int)) (h6 : p < 6)
    (h : ∀ D ws h', Fr h₀ L h' m → News h₀ L h' ((D, W.listOf (List.toArray ws) 0) :: news) → (∀ p ∈ news, p.1 < D) → IntsAre ws ((run.drop i).take (j + 1)) → ((run.drop i).take (j + 1)).length ≤ 6 → Q (.ref D) { s with heap := h' })
    (hs : subscripted slice false (.ref lr) (.ref s.heap.objs.size) = operate [.ref s.heap.objs.size, .ref lr] (getItem (.ref lr) (.ref s.heap.objs.size))) (ht : ∀ r, letTemporaryGo value (.ref lr) r = pure ()) :
    wpAny (model prog w) A (subscriptTail value slice (.ref lr) (.ref s.heap.objs.size)) Q E { s with heap := s.heap.push { cls := .type "slice", data := .fields #[.int k t, .int (p + 1) u, .none] } } := by
  have hz := hi.length
  refine kmk_slice_ints (ms := (run.drop i).take (j + 1)) F N hl (IsPart.int _ _) (IsPart.int _ _) hi ?_ rfl (fun D ws h' F' N' l1 hI _ _ => h D ws h' F' N' l1 hI (by rw [List.length_take, List.length_drop]; omega)) hs ht (by rw [List.size_toArray, sizeLine_eq]; omega)
  have := kmk_run (x := k) (y := p + 1) hi (by omega) (by omega)
  have e1 : k.toNat = i := by omega
  have e2 : min (p + 1).toNat run.length - k.toNat = j + 1 := by omega
  rw [e2, e1] at this
  exact this
theorem same_told {x : Str} {run : List Int} {i j : Nat} {p k : Int} {t u : Tok} {Q : Value → Shared → Prop} (hr : run.length = 6) (h6 : p < 6) (hk : k = 0 + (i : Int)) (hp : p = k + (j : Int)) (hb : ∀ d ∈ run, 0 ≤ d ∧ d ≤ 2) (h : Q (.bool false) s) :
    wpAny (model prog w) A (compareOp .NotEq (.str (doneS (run.getD p.toNat 0) (dueS x ((run.drop i).take j))) t) (.str (dueS x ((run.drop i).take (j + 1))) u)) Q E s := by
  rw [step_told hr h6 hk hp hb]
  refine PyProof.Rows.ne_str ?_
  have e : (dueS x ((run.drop i).take (j + 1)) != dueS x ((run.drop i).take (j + 1))) = false := by simp
  rw [e]
  exact h
theorem in_end {h₀ : Heap} {L lr : Addr} {all led : List (Addr × Obj)} {m' : Str → Option Value} {x : Str} {run : List Int} {i j : Nat} {k p : Int} {t0 ts td : Tok} {h' : Heap} {tk : Nat} {Q : Flow → Shared → Prop} (F : Fr h₀ L h' m') (N : News h₀ L h' all) (sub : ∀ q ∈ led, q ∈ all)
    (q1 : m' (Str.ofString "text") = some (.str x t0)) (q2 : m' (Str.ofString "run") = some (.ref lr)) (q3 : m' (Str.ofString "start") = some (.int k ts)) (q4 : m' (Str.ofString "told") = some (.str (doneS (run.getD p.toNat 0) (dueS x ((run.drop i).take j))) td))
    (hr : run.length = 6) (h6 : p < 6) (hk : k = 0 + (i : Int)) (hp : p = k + (j : Int)) (hb : ∀ d ∈ run, 0 ≤ d ∧ d ≤ 2) :
    TurnEnd h₀ L (InM x t0 lr run i k ts (j + 1)) led s Q .next { s with heap := h', toks := tk } :=
  ⟨h', tk, m', rfl, F, fun p hp => N p (sub p hp), ⟨q1, q2, q3, ⟨td, by rw [q4, step_told hr h6 hk hp hb]⟩⟩⟩
theorem out_end {h₀ : Heap} {L lr : Addr} {all led : List (Addr × Obj)} {m' : Str → Option Value} {x : Str} {t0 : Tok} {h' : Heap} {tk : Nat} {Q : Flow → Shared → Prop} (F : Fr h₀ L h' m') (N : News h₀ L h' all) (sub : ∀ q ∈ led, q ∈ all)
    (q1 : m' (Str.ofString "text") = some (.str x t0)) (q2 : m' (Str.ofString "run") = some (.ref lr)) :
    TurnEnd h₀ L (OutM x t0 lr) led s Q .next { s with heap := h', toks := tk } := ⟨h', tk, m', rfl, F, fun p hp => N p (sub p hp), ⟨q1, q2⟩⟩
end
local macro_rules | `(tactic| walk_at "call ref") => `(tactic| ((with_reducible show wpAny _ _ (call (Value.ref 74) _) _ _ _); refine stop_here ?_))
local macro_rules | `(tactic| walk_at "call ref") => `(tactic| (k_here; k_dflt (first
  | ((with_reducible show wpAny _ _ (call (Value.ref 79) _) _ _ _); refine' cc_use (done_claim _ _ _ _ _ _ _ _ _) ?k1 ?k2 ?k3 ?k4 ?k5 ?kK ?kp ?kd ?ku ?_; (case k1 => k_asm); (case k2 => k_asm); (case k3 => k_asm); (case k4 => k_asm); (case k5 => k_asm); (case kK => first | exact rfl | assumption); (case kp => exact And.intro (by assumption) (by assumption)); (case kd => ktr_room); (case ku => ktr_units); intro t9 h9 tk9 F9 N9; (try dsimp only))
  | ((with_reducible show wpAny _ _ (call (Value.ref 84) _) _ _ _); refine' cc_use (due_claim _ _ _ _ _ _ _ _ _ _ _ ?kI ?kz ?kx) ?k1 ?k2 ?k3 ?k4 ?k5 ?kK ?kp ?kd ?ku ?_; (case k1 => k_asm); (case k2 => k_asm); (case k3 => k_asm); (case k4 => k_asm); (case k5 => k_asm); (case kI => assumption); (case kz => assumption); (case kx => omega); (case kK => first | exact rfl | assumption); (case kp => exact True.intro); (case kd => ktr_room); (case ku => ktr_units); intro t9 h9 tk9 F9 N9; (try dsimp only)))))
local macro_rules | `(tactic| walk_at "pyIter ref") => `(tactic| ((with_reducible show wpAny _ _ (pyIter (Value.ref _)) _ _ _); refine stop_here ?_))
local macro_rules | `(tactic| walk_at "eval Name") => `(tactic| (k_here; k_dflt (refine' ld ?k1 ?k2 ?_ ?k3 ?k4 ?k5; (case k1 => k_asm); (case k2 => assumption); (case k3 => exact rfl); (case k4 => exact rfl); (case k5 => decide); k_whole)))
local macro_rules | `(tactic| walk_at "subscriptTail Name Slice ref ref") => `(tactic| (k_here; (with_reducible show wpAny _ _ (subscriptTail _ (PySem.Expr.Slice (some _) (some _) none _) (Value.ref _) (Value.ref _)) _ _ _); k_dflt (refine' cut_run ?kF ?kN ?kl ?ki ?ke ?kk ?kp ?k6 ?_ ?ks ?kt; (case kF => k_asm); (case kN => k_asm); (case kl => is_list); (case ki => assumption); (case ke => assumption); (case kk => with_reducible assumption); (case kp => with_reducible assumption); (case k6 => assumption); (case ks => with_unfolding_all rfl); (case kt => kmk_pure)); intro D' ws' h' F' N' l1 hI' hL'; (try k_lt l1); (try k_sweep)))
local macro_rules | `(tactic| walk_at "compareOp NotEq str str") => `(tactic| (k_here; (with_reducible show wpAny _ _ (compareOp CmpOp.NotEq (Value.str (doneS _ _) _) (Value.str (dueS _ _) _)) _ _ _); k_dflt (refine' same_told ?k0 ?k1 ?k2 ?k3 ?k4 ?_; (case k0 => assumption); (case k1 => assumption); (case k2 => with_reducible assumption); (case k3 => with_reducible assumption); (case k4 => assumption); k_whole)))
theorem law_holds : PySem.Challenge.rw_nb0382_01.Holds := hd (by
  k_go0
  (all_goals try k_fold)
  k_steps
  unfold StopAt
  k_dflt (refine' drawn_claim ?kI ?kl ?k1 ?k2 ?k3 ?k4 ?k5 ?kK ?kb ?kd ?ku ?_)
  (case kI => assumption)
  (case kl => omega)
  (case k1 => k_asm)
  (case k2 => k_asm)
  (case k3 => k_asm)
  (case k4 => k_asm)
  (case k5 => k_asm)
  (case kK => first | exact rfl | assumption)
  (case kb => assumption)
  (case kd => ktr_room)
  (case ku => ktr_units)
  intro T9 lr9 x9 t9 us9 run9 n9 h9 tk9 F9 N9 lt9 hI9 hr9 hd9 hx9 hb9
  try dsimp only
  k_steps
  unfold StopAt
  k_dflt (refine' loop_rng (n := 6) (J := fun _ => OutM x9 t9 lr9) ?kh ?kr ?ka ?kb ?kn ?kF ?kN ?kJ ?kt ?kd)
  (case kh => exact rfl)
  (case kF => k_asm)
  (case kN => k_asm)
  (case kr => assumption)
  (case ka => decide)
  (case kb => exact rfl)
  (case kn => decide)
  (case kJ => exact ⟨rfl, rfl⟩)
  case kd =>
    intro m8 h8 tk8 J8 F8 N8
    dsimp only
    k_steps
  case kt =>
    intro i8 k8 I8 it8 t8 m8 h8 tk8 hi8 hk8 J8 l8 F8 N8
    obtain ⟨q1, q2⟩ := J8
    k_steps
    unfold StopAt
    k_dflt (refine' loop_rng (n := 6 - i8) (J := InM x9 t9 lr9 run9 i8 k8 t8) ?jh ?jr ?ja ?jb ?jn ?jF ?jN ?jJ ?jt ?jd)
    (case jh => exact rfl)
    (case jF => k_asm)
    (case jN => k_asm)
    (case jr => assumption)
    (case ja => omega)
    (case jb => exact rfl)
    (case jn => omega)
    (case jJ => exact ⟨q1, q2, rfl, ⟨_, by rw [due_start_is]; rfl⟩⟩)
    case jd =>
      intro m7 h7 tk7 J7 F7 N7
      obtain ⟨r1, r2, r3, _⟩ := J7
      dsimp only
      k_steps
      refine' out_end ?tF ?tN ?ts ?t1 ?t2
      (case tF => assumption)
      (case tN => assumption)
      (case ts => (intro p hp; repeat (first | exact hp | apply List.mem_cons_of_mem)))
      (case t1 => exact r1)
      (case t2 => exact r2)
    case jt =>
      intro j7 p7 I7 it7 t7 m7 h7 tk7 hj7 hp7 J7 l7 F7 N7
      obtain ⟨r1, r2, r3, ⟨td7, r4⟩⟩ := J7
      have g0 : 0 ≤ p7 := by omega
      have g6 : p7 < 6 := by omega
      have gz : (dueS x9 ((run9.drop i8).take j7)).length ≤ 2 ^ 19 := due_fits hx9 (by rw [List.length_take, List.length_drop]; omega)
      have gb := due_below hb9 hd9 i8 j7
      k_steps
      refine' in_end ?tF ?tN ?ts ?t1 ?t2 ?t3 ?t4 hr9 g6 hk8 hp7 hd9
      (case tF => assumption)
      (case tN => assumption)
      (case ts => (intro p hp; repeat (first | exact hp | apply List.mem_cons_of_mem)))
      (case t1 => exact r1)
      (case t2 => exact r2)
      (case t3 => exact r3)
      (case t4 => exact rfl))
end Mine
end
theorem PySem.Challenge.cw_nb0382_01_holds : PySem.Challenge.rw_nb0382_01.Holds := by
  exact Mine.law_holds
