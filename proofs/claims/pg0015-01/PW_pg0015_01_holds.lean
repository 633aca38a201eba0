import PyProof.Rows.All
import Wide.All
import OpenK.AllK
import Wide.FinOn
import PySem.Challenge.RW_pg0015_01
set_option Elab.async false

section -- HD
open PySem PySem.W PyProof.Rows
namespace Mine
set_option maxRecDepth 100000 in
set_option maxHeartbeats 8000000 in
open_top hd for PySem.Challenge.rw_pg0015_01
end Mine

end

section -- RX
namespace Mine.Rx
open PySem.Sre

/-- the code words of the two dot patterns -/
def c1 : Array Nat := #[14, 4, 0, 1, 1, 6, 1, 16, 46, 1]
/-- the code words of the ends' pattern -/
def c3 : Array Nat := #[14, 9, 4, 1, 2, 16, 10, 16, 13, 0, 7, 7, 16, 13, 16, 10, 15, 18, 5, 16, 10, 15, 13, 11, 16, 13, 5, 5, 0, 16, 10, 1, 15, 2, 0, 1]

theorem runFor_add (a b : Nat) (m : M) : M.runFor (a + b) m = M.runFor b (M.runFor a m) := by
  induction a generalizing m with
  | zero => simp [M.runFor]
  | succ a ih =>
    rw [Nat.succ_add]
    simp only [M.runFor]
    split
    · rename_i h
      cases b with
      | zero => rfl
      | succ b => simp only [M.runFor, h, if_true]
    · exact ih _

theorem runFor_done {m : M} (h : m.outcome.isSome = true) (n : Nat) : M.runFor n m = m := by
  cases n with
  | zero => rfl
  | succ n => simp only [M.runFor, h, if_true]

theorem runFor_step {m : M} (h : m.outcome = none) (n : Nat) : M.runFor (n + 1) m = M.runFor n m.step := by
  simp [M.runFor, h]

/-- within k steps m comes to its end, and there R holds -/
def Hits (k : Nat) (m : M) (R : M → Prop) : Prop := (M.runFor k m).outcome.isSome = true ∧ R (M.runFor k m)

theorem Hits.here {m : M} {R : M → Prop} (h : m.outcome.isSome = true) (hR : R m) (k : Nat) : Hits k m R := by
  unfold Hits; rw [runFor_done h]; exact ⟨h, hR⟩
theorem Hits.next {k : Nat} {m m' : M} {R : M → Prop} (h : m.outcome = none) (e : m.step = m') (H : Hits k m' R) : Hits (k + 1) m R := by
  unfold Hits; rw [runFor_step h, e]; exact H
theorem Hits.mono {k k' : Nat} {m : M} {R : M → Prop} (H : Hits k m R) (hk : k ≤ k') : Hits k' m R := by
  obtain ⟨j, rfl⟩ := Nat.le.dest hk
  unfold Hits at *
  rw [runFor_add, runFor_done H.1]; exact H
theorem Hits.imp {k : Nat} {m : M} {R R' : M → Prop} (H : Hits k m R) (h : ∀ m, R m → R' m) : Hits k m R' := ⟨H.1, h _ H.2⟩

/-- a machine of the dot pattern -/
abbrev mk1 (text : Array Nat) (start : Nat) (must : Bool) (pc pos handed : Nat) (o : Bool) (frames : List Frame) (weight : Nat) (answer : Option Bool) (seen : Seen) (outcome : Option Outcome) : M :=
  { code := c1, text, lim := text.size, start, lastStart := text.size, wholeText := false, mustAdvance := must, pc, pos, handed, outermost := o, marks := #[], lastmark := -1, lastindex := -1, loops := #[], inner := none, frames, weight, answer, seen, outcome }

/-- the waiting frame of an attempt at p -/
abbrev fr1 (pc p : Nat) (o : Bool) : Frame := { wait := .nextStart, pc, pos := p, outermost := o }

variable {text : Array Nat}

def bol (text : Array Nat) (p : Nat) : Bool := p == 0 || text.getD (p - 1) 0 == 10
def atDot (text : Array Nat) (p : Nat) : Bool := bol text p && decide (p < text.size) && text.getD p 0 == 46

theorem s1_at {start pos handed w : Nat} {must o : Bool} {fs : List Frame} {seen : Seen} :
    ∃ seen', (mk1 text start must 5 pos handed o fs w none seen none).step =
      if bol text pos then mk1 text start must 7 pos handed o fs w none seen' none else mk1 text start must 5 pos handed o fs w (some false) seen' none := ⟨_, rfl⟩
theorem s1_lit {start pos handed w : Nat} {must o : Bool} {fs : List Frame} {seen : Seen} :
    ∃ seen', (mk1 text start must 7 pos handed o fs w none seen none).step =
      if pos ≥ text.size then mk1 text start must 7 pos handed o fs w (some false) seen' none else
      if text.getD pos 0 == 46 then mk1 text start must 9 (pos + 1) handed o fs w none seen' none else mk1 text start must 7 pos handed o fs w (some false) seen' none := by
  refine ⟨seen.add 16, ?_⟩
  by_cases h : pos ≥ text.size
  · rw [if_pos h]
    show (if pos ≥ text.size then _ else _) = _
    rw [if_pos h]; rfl
  · rw [if_neg h]
    show (if pos ≥ text.size then _ else _) = _
    rw [if_neg h]
    show (match (Except.ok (text.getD pos 0 == 46, seen.add 16) : Except String (Bool × Seen)) with
      | .error why => _
      | .ok (false, seen) => _
      | .ok (true, seen) => _) = _
    cases text.getD pos 0 == 46 <;> rfl
theorem s1_end {start pos handed w : Nat} {must o : Bool} {fs : List Frame} {seen : Seen} (h : pos ≠ start) :
    ∃ seen', (mk1 text start must 9 pos handed o fs w none seen none).step = mk1 text start must 9 pos pos o fs w (some true) seen' none := by
  refine ⟨seen.add 1, ?_⟩
  show (if (o && ((false && _) || (must && (pos == start)))) = true then _ else _) = _
  rw [if_neg (by simp [h])]; rfl
theorem s1_yes {start pos handed w pc p : Nat} {must o o' : Bool} {seen : Seen} :
    (mk1 text start must pc pos handed o [fr1 5 p o'] w (some true) seen none).step = mk1 text start must 5 p handed o' [] (w - 1) (some true) seen none := rfl
theorem s1_fin {start pos handed w pc : Nat} {must o b : Bool} {seen : Seen} :
    (mk1 text start must pc pos handed o [] w (some b) seen none).step = mk1 text start must pc pos handed o [] w (some b) seen (some (if b then .matched else .failed)) := by
  cases b <;> rfl
theorem s1_no {start pos handed w pc p : Nat} {must o o' : Bool} {seen : Seen} :
    (mk1 text start must pc pos handed o [fr1 5 p o'] (w + 1) (some false) seen none).step =
      if p < text.size then (if w + 1 > 16777216 then (mk1 text (p + 1) false 5 (p + 1) handed o' [] w none seen none).stick "frames:memory" else mk1 text (p + 1) false 5 (p + 1) (p + 1) false [fr1 5 (p + 1) false] (w + 1) none seen none)
      else mk1 text start must 5 p handed o' [] w (some false) seen none := by
  show (if p < text.size then _ else _) = _
  by_cases h : p < text.size
  · rw [if_pos h, if_pos h]; rfl
  · rw [if_neg h, if_neg h]; rfl

def nextDot (text : Array Nat) : Nat → Nat → Option Nat
  | 0, _ => none
  | f + 1, p => if atDot text p then some p else nextDot text f (p + 1)

/-- what a found or a lacking match looks like -/
def Found (r : Option (Nat × Nat)) (m : M) : Prop := match r with
  | some (p, e) => m.outcome = some .matched ∧ m.start = p ∧ m.handed = e
  | none => m.outcome = some .failed

theorem Hits.lack {m : M} (h : m.outcome = some .failed) : Hits 0 m (Found none) := Hits.here (by rw [h]; rfl) h 0

theorem try1_yes {p w : Nat} {must o : Bool} {seen : Seen} (hd : atDot text p = true) :
    Hits 5 (mk1 text p must 5 p p o [fr1 5 p o] w none seen none) (Found (some (p, p + 1))) := by
  simp only [atDot, Bool.and_eq_true, decide_eq_true_eq] at hd
  obtain ⟨⟨h1, h2⟩, h3⟩ := hd
  obtain ⟨_, e1⟩ := s1_at (text := text) (start := p) (pos := p) (handed := p) (w := w) (must := must) (o := o) (fs := [fr1 5 p o]) (seen := seen)
  rw [if_pos h1] at e1
  refine Hits.next rfl e1 ?_
  obtain ⟨_, e2⟩ := s1_lit (text := text) (start := p) (pos := p) (handed := p) (w := w) (must := must) (o := o) (fs := [fr1 5 p o])
  rw [if_neg (by omega), if_pos h3] at e2
  refine Hits.next rfl e2 ?_
  obtain ⟨_, e3⟩ := s1_end (text := text) (start := p) (pos := p + 1) (handed := p) (w := w) (must := must) (o := o) (fs := [fr1 5 p o]) (by omega)
  refine Hits.next rfl e3 (Hits.next rfl s1_yes (Hits.next rfl s1_fin (Hits.here rfl ⟨rfl, rfl, rfl⟩ 0)))

theorem try1_no {p : Nat} {must o : Bool} {seen : Seen} (hd : atDot text p = false) :
    ∃ (pc : Nat) (seen' : Seen), ∀ k R, Hits k (mk1 text p must pc p p o [fr1 5 p o] 1 (some false) seen' none) R → Hits (k + 2) (mk1 text p must 5 p p o [fr1 5 p o] 1 none seen none) R := by
  obtain ⟨se1, e1⟩ := s1_at (text := text) (start := p) (pos := p) (handed := p) (w := 1) (must := must) (o := o) (fs := [fr1 5 p o]) (seen := seen)
  cases h1 : bol text p with
  | false =>
    rw [if_neg (by simp [h1])] at e1
    exact ⟨5, se1, fun k R H => (Hits.next rfl e1 H).mono (by omega)⟩
  | true =>
    rw [if_pos h1] at e1
    obtain ⟨se2, e2⟩ := s1_lit (text := text) (start := p) (pos := p) (handed := p) (w := 1) (must := must) (o := o) (fs := [fr1 5 p o]) (seen := se1)
    by_cases h2 : p ≥ text.size
    · rw [if_pos h2] at e2
      exact ⟨7, se2, fun k R H => Hits.next rfl e1 (Hits.next rfl e2 H)⟩
    · rw [if_neg h2] at e2
      have h3 : (text.getD p 0 == 46) = false := by
        simp only [atDot, h1, Bool.true_and, Bool.and_eq_false_iff, decide_eq_false_iff_not] at hd
        rcases hd with h | h
        · omega
        · exact h
      rw [if_neg (by rw [h3]; exact Bool.false_ne_true)] at e2
      exact ⟨7, se2, fun k R H => Hits.next rfl e1 (Hits.next rfl e2 H)⟩

theorem walk1 : ∀ (f p : Nat) (must o : Bool) (seen : Seen), p + f = text.size + 1 →
    Hits (5 * f + 5) (mk1 text p must 5 p p o [fr1 5 p o] 1 none seen none) (Found ((nextDot text f p).map fun q => (q, q + 1)))
  | 0, p, must, o, seen, h => by
    have hd : atDot text p = false := by
      have : ¬ p < text.size := by omega
      simp [atDot, this]
    obtain ⟨pc, se, H⟩ := try1_no (text := text) (p := p) (must := must) (o := o) (seen := seen) hd
    refine (H 2 _ (Hits.next rfl s1_no ?_)).mono (by omega)
    rw [if_neg (by omega)]
    show Hits 1 _ (Found none)
    exact Hits.next rfl s1_fin (Hits.lack rfl)
  | f + 1, p, must, o, seen, h => by
    cases hd : atDot text p with
    | true =>
      have : nextDot text (f + 1) p = some p := by simp [nextDot, hd]
      rw [this]
      exact (try1_yes hd).mono (by omega)
    | false =>
      have e : nextDot text (f + 1) p = nextDot text f (p + 1) := by simp [nextDot, hd]
      rw [e]
      obtain ⟨pc, se, H⟩ := try1_no (text := text) (p := p) (must := must) (o := o) (seen := seen) hd
      by_cases hp : p < text.size
      · refine (H (5 * f + 5 + 1) _ (Hits.next rfl s1_no ?_)).mono (by omega)
        rw [if_pos hp, if_neg (by omega)]
        exact walk1 f (p + 1) false false se (by omega)
      · refine (H 2 _ (Hits.next rfl s1_no ?_)).mono (by omega)
        rw [if_neg hp]
        have hn : nextDot text f (p + 1) = none := by
          cases f with
          | zero => rfl
          | succ f =>
            exfalso; omega
        rw [hn]
        show Hits 1 _ (Found none)
        exact Hits.next rfl s1_fin (Hits.lack rfl)

theorem search1 {pos : Nat} {must : Bool} (hp : pos ≤ text.size) :
    Hits (5 * (text.size + 1 - pos) + 5) (forSearch c1 text 0 pos text.size must) (Found ((nextDot text (text.size + 1 - pos) pos).map fun q => (q, q + 1))) := by
  by_cases h : pos < text.size
  · have e : forSearch c1 text 0 pos text.size must = mk1 text pos must 5 pos pos true [fr1 5 pos true] 1 none (({} : Seen).add 14) none := by
      show (if (decide (pos > text.size) || decide (text.size - pos < 1)) = true then _ else _) = _
      rw [if_neg (by simp; omega)]; rfl
    rw [e]
    exact walk1 _ _ _ _ _ (by omega)
  · have e : forSearch c1 text 0 pos text.size must = { mk1 text pos must 5 pos pos true [] 0 (some false) (({} : Seen).add 14) none with lastStart := 0 } := by
      show (if (decide (pos > text.size) || decide (text.size - pos < 1)) = true then _ else _) = _
      rw [if_pos (by simp; omega)]; rfl
    have hn : nextDot text (text.size + 1 - pos) pos = none := by
      have e1 : text.size + 1 - pos = 0 + 1 := by omega
      rw [e1]
      simp [nextDot, atDot, h]
    rw [e, hn]
    show Hits _ _ (Found none)
    exact Hits.mono (Hits.next (k := 0) rfl rfl (Hits.lack rfl)) (by omega)

/-! the ends' pattern -/
abbrev mk3 (text : Array Nat) (start : Nat) (must : Bool) (pc pos handed : Nat) (o : Bool) (frames : List Frame) (weight : Nat) (answer : Option Bool) (seen : Seen) (outcome : Option Outcome) : M :=
  { code := c3, text, lim := text.size, start, lastStart := text.size, wholeText := false, mustAdvance := must, pc, pos, handed, outermost := o, marks := #[], lastmark := -1, lastindex := -1, loops := #[], inner := none, frames, weight, answer, seen, outcome }
abbrev nb (alt p : Nat) (o : Bool) : Frame := { wait := .nextBranch, pc := alt, pos := p, outermost := o }
abbrev ln (p : Nat) (o : Bool) : Frame := { wait := .lookNot, pc := 26, pos := p, outermost := o }

section
variable {start pos handed w p pc : Nat} {must o o' : Bool} {fs : List Frame} {seen : Seen}
theorem s3_branch (hw : w = 1) : ∃ seen', (mk3 text start must 10 pos handed o fs w none seen none).step = mk3 text start must 12 pos pos o (nb 11 pos o :: fs) (w + 1) none seen' none := by
  subst hw; exact ⟨_, rfl⟩
/-- a literal at one of the five places -/
theorem s3_lit (seen : Seen) (fs : List Frame) (o : Bool) (pos handed w : Nat) (pc c : Nat) (hpc : (pc = 12 ∧ c = 13) ∨ (pc = 14 ∧ c = 10) ∨ (pc = 19 ∧ c = 10) ∨ (pc = 24 ∧ c = 13) ∨ (pc = 29 ∧ c = 10)) :
    (mk3 text start must pc pos handed o fs w none seen none).step =
      if pos < text.size ∧ text.getD pos 0 = c then mk3 text start must (pc + 2) (pos + 1) handed o fs w none (seen.add 16) none else mk3 text start must pc pos handed o fs w (some false) (seen.add 16) none := by
  rcases hpc with ⟨rfl, rfl⟩ | ⟨rfl, rfl⟩ | ⟨rfl, rfl⟩ | ⟨rfl, rfl⟩ | ⟨rfl, rfl⟩
  · by_cases h : pos ≥ text.size
    · rw [if_neg (by omega)]
      show (if pos ≥ text.size then _ else _) = _
      rw [if_pos h]; rfl
    · show (if pos ≥ text.size then _ else _) = _
      rw [if_neg h]
      show (match (Except.ok (text.getD pos 0 == 13, seen.add 16) : Except String (Bool × Seen)) with
          | .error why => _
          | .ok (false, seen) => _
          | .ok (true, seen) => _) = _
      by_cases h2 : text.getD pos 0 = 13
      · rw [if_pos ⟨by omega, h2⟩, beq_iff_eq.mpr h2]; rfl
      · rw [if_neg (fun q => h2 q.2), beq_eq_false_iff_ne.mpr h2]; rfl
  · by_cases h : pos ≥ text.size
    · rw [if_neg (by omega)]
      show (if pos ≥ text.size then _ else _) = _
      rw [if_pos h]; rfl
    · show (if pos ≥ text.size then _ else _) = _
      rw [if_neg h]
      show (match (Except.ok (text.getD pos 0 == 10, seen.add 16) : Except String (Bool × Seen)) with
          | .error why => _
          | .ok (false, seen) => _
          | .ok (true, seen) => _) = _
      by_cases h2 : text.getD pos 0 = 10
      · rw [if_pos ⟨by omega, h2⟩, beq_iff_eq.mpr h2]; rfl
      · rw [if_neg (fun q => h2 q.2), beq_eq_false_iff_ne.mpr h2]; rfl
  · by_cases h : pos ≥ text.size
    · rw [if_neg (by omega)]
      show (if pos ≥ text.size then _ else _) = _
      rw [if_pos h]; rfl
    · show (if pos ≥ text.size then _ else _) = _
      rw [if_neg h]
      show (match (Except.ok (text.getD pos 0 == 10, seen.add 16) : Except String (Bool × Seen)) with
          | .error why => _
          | .ok (false, seen) => _
          | .ok (true, seen) => _) = _
      by_cases h2 : text.getD pos 0 = 10
      · rw [if_pos ⟨by omega, h2⟩, beq_iff_eq.mpr h2]; rfl
      · rw [if_neg (fun q => h2 q.2), beq_eq_false_iff_ne.mpr h2]; rfl
  · by_cases h : pos ≥ text.size
    · rw [if_neg (by omega)]
      show (if pos ≥ text.size then _ else _) = _
      rw [if_pos h]; rfl
    · show (if pos ≥ text.size then _ else _) = _
      rw [if_neg h]
      show (match (Except.ok (text.getD pos 0 == 13, seen.add 16) : Except String (Bool × Seen)) with
          | .error why => _
          | .ok (false, seen) => _
          | .ok (true, seen) => _) = _
      by_cases h2 : text.getD pos 0 = 13
      · rw [if_pos ⟨by omega, h2⟩, beq_iff_eq.mpr h2]; rfl
      · rw [if_neg (fun q => h2 q.2), beq_eq_false_iff_ne.mpr h2]; rfl
  · by_cases h : pos ≥ text.size
    · rw [if_neg (by omega)]
      show (if pos ≥ text.size then _ else _) = _
      rw [if_pos h]; rfl
    · show (if pos ≥ text.size then _ else _) = _
      rw [if_neg h]
      show (match (Except.ok (text.getD pos 0 == 10, seen.add 16) : Except String (Bool × Seen)) with
          | .error why => _
          | .ok (false, seen) => _
          | .ok (true, seen) => _) = _
      by_cases h2 : text.getD pos 0 = 10
      · rw [if_pos ⟨by omega, h2⟩, beq_iff_eq.mpr h2]; rfl
      · rw [if_neg (fun q => h2 q.2), beq_eq_false_iff_ne.mpr h2]; rfl
theorem s3_jump (hpc : pc = 16 ∨ pc = 21 ∨ pc = 32) :
    ∃ seen', (mk3 text start must pc pos handed o fs w none seen none).step = mk3 text start must 35 pos handed o fs w none seen' none := by
  rcases hpc with rfl | rfl | rfl <;> exact ⟨_, rfl⟩
theorem s3_look (hw : w = 2) : ∃ seen', (mk3 text start must 26 pos handed o fs w none seen none).step = mk3 text start must 29 pos pos false (ln pos o :: fs) (w + 1) none seen' none := by
  subst hw; exact ⟨_, rfl⟩
theorem s3_looked : (mk3 text start must pc pos handed o (ln p o' :: fs) w (some false) seen none).step = mk3 text start must 32 p handed o' fs (w - 1) none seen none := rfl
theorem s3_end (h : pos ≠ start) :
    ∃ seen', (mk3 text start must 35 pos handed o fs w none seen none).step = mk3 text start must 35 pos pos o fs w (some true) seen' none := by
  refine ⟨seen.add 1, ?_⟩
  show (if (o && ((false && _) || (must && (pos == start)))) = true then _ else _) = _
  rw [if_neg (by simp [h])]; rfl
theorem s3_yes1 {alt : Nat} : (mk3 text start must pc pos handed o (nb alt p o' :: fs) w (some true) seen none).step = mk3 text start must alt p handed o' fs (w - 1) (some true) seen none := rfl
theorem s3_yes2 : (mk3 text start must pc pos handed o (fr1 10 p o' :: fs) w (some true) seen none).step = mk3 text start must 10 p handed o' fs (w - 1) (some true) seen none := rfl
theorem s3_fin : (mk3 text start must pc pos handed o [] w (some true) seen none).step = mk3 text start must pc pos handed o [] w (some true) seen (some .matched) := rfl
theorem s3_no1 (hw : w = 2) : (mk3 text start must pc pos handed o (nb 11 p o' :: fs) w (some false) seen none).step = mk3 text start must 19 p p o' (nb 18 p o' :: fs) 2 none seen none := by
  subst hw; rfl
theorem s3_no2 (hw : w = 2) : (mk3 text start must pc pos handed o (nb 18 p o' :: fs) w (some false) seen none).step = mk3 text start must 24 p p o' (nb 23 p o' :: fs) 2 none seen none := by
  subst hw; rfl
end

theorem end3 {s e h : Nat} {must o : Bool} {alt : Nat} {seen : Seen} (he : e ≠ s) :
    Hits 4 (mk3 text s must 35 e h o [nb alt s o, fr1 10 s o] 2 none seen none) (Found (some (s, e))) := by
  obtain ⟨_, e1⟩ := s3_end (text := text) (start := s) (pos := e) (handed := h) (w := 2) (must := must) (o := o) (fs := [nb alt s o, fr1 10 s o]) (seen := seen) he
  exact Hits.next rfl e1 (Hits.next rfl s3_yes1 (Hits.next rfl s3_yes2 (Hits.next rfl s3_fin (Hits.here rfl ⟨rfl, rfl, rfl⟩ 0))))

def endLen (text : Array Nat) (p : Nat) : Nat := if text.getD p 0 = 13 ∧ p + 1 < text.size ∧ text.getD (p + 1) 0 = 10 then p + 2 else p + 1

theorem try3 {s : Nat} {must o : Bool} {seen : Seen} (hs : s < text.size) (hc : text.getD s 0 = 10 ∨ text.getD s 0 = 13) :
    Hits 20 (mk3 text s must 10 s s o [fr1 10 s o] 1 none seen none) (Found (some (s, endLen text s))) := by
  obtain ⟨se1, e1⟩ := s3_branch (text := text) (start := s) (pos := s) (handed := s) (must := must) (o := o) (fs := [fr1 10 s o]) (seen := seen) (w := 1) rfl
  have G : ∀ m, Hits 19 m (Found (some (s, endLen text s))) → (mk3 text s must 10 s s o [fr1 10 s o] 1 none seen none).step = m → Hits 20 (mk3 text s must 10 s s o [fr1 10 s o] 1 none seen none) (Found (some (s, endLen text s))) := fun m H e => Hits.next rfl e H
  refine G _ ?_ e1
  clear G e1
  have e2 := s3_lit (text := text) (start := s) (must := must) se1 [nb 11 s o, fr1 10 s o] o s s 2 12 13 (by decide)
  rcases hc with hc | hc
  · -- a feed
    have hl : endLen text s = s + 1 := by unfold endLen; rw [if_neg (by omega)]
    rw [hl]
    rw [if_neg (by omega)] at e2
    refine Hits.mono (Hits.next rfl e2 (Hits.next rfl (s3_no1 rfl) ?_)) (show 10 ≤ 19 by omega)
    have e3 := s3_lit (text := text) (start := s) (must := must) (se1.add 16) [nb 18 s o, fr1 10 s o] o s s 2 19 10 (by decide)
    rw [if_pos ⟨hs, hc⟩] at e3
    refine Hits.next rfl e3 ?_
    obtain ⟨_, e4⟩ := s3_jump (text := text) (start := s) (pos := s + 1) (handed := s) (w := 2) (must := must) (o := o) (fs := [nb 18 s o, fr1 10 s o]) (pc := 21) (seen := (se1.add 16).add 16) (by decide)
    exact Hits.next rfl e4 (Hits.mono (end3 (by omega)) (by omega))
  · rw [if_pos ⟨hs, hc⟩] at e2
    refine Hits.next rfl e2 ?_
    have e3 := s3_lit (text := text) (start := s) (must := must) (se1.add 16) [nb 11 s o, fr1 10 s o] o (s + 1) s 2 14 10 (by decide)
    by_cases hn : s + 1 < text.size ∧ text.getD (s + 1) 0 = 10
    · rw [if_pos hn] at e3
      have hl : endLen text s = s + 2 := by unfold endLen; rw [if_pos ⟨hc, hn.1, hn.2⟩]
      rw [hl]
      refine Hits.next rfl e3 ?_
      obtain ⟨_, e4⟩ := s3_jump (text := text) (start := s) (pos := s + 2) (handed := s) (w := 2) (must := must) (o := o) (fs := [nb 11 s o, fr1 10 s o]) (pc := 16) (seen := (se1.add 16).add 16) (by decide)
      exact Hits.next rfl e4 (Hits.mono (end3 (by omega)) (by omega))
    · rw [if_neg hn] at e3
      have hl : endLen text s = s + 1 := by unfold endLen; rw [if_neg (fun q => hn ⟨q.2.1, q.2.2⟩)]
      rw [hl]
      refine Hits.next rfl e3 (Hits.next rfl (s3_no1 rfl) ?_)
      have e4 := s3_lit (text := text) (start := s) (must := must) ((se1.add 16).add 16) [nb 18 s o, fr1 10 s o] o s s 2 19 10 (by decide)
      rw [if_neg (by omega)] at e4
      refine Hits.next rfl e4 (Hits.next rfl (s3_no2 rfl) ?_)
      have e5 := s3_lit (text := text) (start := s) (must := must) (((se1.add 16).add 16).add 16) [nb 23 s o, fr1 10 s o] o s s 2 24 13 (by decide)
      rw [if_pos ⟨hs, hc⟩] at e5
      refine Hits.next rfl e5 ?_
      obtain ⟨se6, e6⟩ := s3_look (text := text) (start := s) (pos := s + 1) (handed := s) (must := must) (o := o) (fs := [nb 23 s o, fr1 10 s o]) (w := 2) (seen := (((se1.add 16).add 16).add 16).add 16) rfl
      refine Hits.next rfl e6 ?_
      have e7 := s3_lit (text := text) (start := s) (must := must) se6 [ln (s + 1) o, nb 23 s o, fr1 10 s o] false (s + 1) (s + 1) 3 29 10 (by decide)
      rw [if_neg hn] at e7
      refine Hits.next rfl e7 (Hits.next rfl s3_looked ?_)
      obtain ⟨_, e8⟩ := s3_jump (text := text) (start := s) (pos := s + 1) (handed := s + 1) (w := 2) (must := must) (o := o) (fs := [nb 23 s o, fr1 10 s o]) (pc := 32) (seen := se6.add 16) (by decide)
      exact Hits.next rfl e8 (Hits.mono (end3 (by omega)) (by omega))

theorem set3 (c : Nat) (seen : Seen) : ∃ seen', inSet c3 c 36 5 true seen = .ok (c == 10 || c == 13, seen') := by
  by_cases h1 : c = 10
  · subst h1; exact ⟨_, rfl⟩
  · by_cases h2 : c = 13
    · subst h2; exact ⟨_, rfl⟩
    · refine ⟨((seen.add 16).add 16).add 0, ?_⟩
      show (if (c == 10) = true then _ else _) = _
      rw [if_neg (by simpa using h1)]
      show (if (c == 13) = true then _ else _) = _
      rw [if_neg (by simpa using h2), show (c == 10) = false from by simpa using h1, show (c == 13) = false from by simpa using h2]
      rfl

def isEnd (text : Array Nat) (p : Nat) : Bool := decide (p < text.size) && (text.getD p 0 == 10 || text.getD p 0 == 13)
def nextEnd (text : Array Nat) : Nat → Nat → Option Nat
  | 0, _ => none
  | f + 1, p => if p ≥ text.size then none else if text.getD p 0 == 10 || text.getD p 0 == 13 then some p else nextEnd text f (p + 1)

theorem admitted3 {m : M} (hc : m.code = c3) (ht : m.text = text) (hl : m.lim = text.size) : ∀ (f s : Nat) (seen : Seen), ∃ seen', M.admitted m f s seen = .ok (nextEnd text f s, seen')
  | 0, _, seen => ⟨seen, rfl⟩
  | f + 1, s, seen => by
    unfold M.admitted nextEnd
    rw [hl]
    by_cases h : s ≥ text.size
    · rw [if_pos h, if_pos h]; exact ⟨_, rfl⟩
    · rw [if_neg h, if_neg h, hc, ht]
      obtain ⟨se, e⟩ := set3 (text.getD s 0) seen
      rw [show c3.size = 36 from rfl, e]
      cases hb : (text.getD s 0 == 10 || text.getD s 0 == 13) with
      | true => exact ⟨se, rfl⟩
      | false => exact admitted3 hc ht hl f (s + 1) se

theorem nextEnd_spec : ∀ {f s p : Nat}, nextEnd text f s = some p → p < text.size ∧ (text.getD p 0 = 10 ∨ text.getD p 0 = 13)
  | 0, _, _, h => by cases h
  | f + 1, s, p, h => by
    unfold nextEnd at h
    split at h
    · cases h
    · rename_i hlt
      split at h
      · rename_i hc
        cases h
        simp only [Bool.or_eq_true, beq_iff_eq] at hc
        exact ⟨by omega, hc⟩
      · exact nextEnd_spec h

theorem search3 {pos : Nat} {must : Bool} (hp : pos ≤ text.size) :
    Hits 25 (forSearch c3 text 0 pos text.size must) (Found ((nextEnd text (text.size + 1 - pos) pos).map fun q => (q, endLen text q))) := by
  by_cases h : pos < text.size
  · obtain ⟨se, e⟩ := admitted3 (text := text) (m := mk3 text pos must 10 pos pos true [] 0 none (({} : Seen).add 14) none) rfl rfl rfl (text.size + 1 - pos) pos (({} : Seen).add 14)
    have e0 : forSearch c3 text 0 pos text.size must = M.attemptFrom (mk3 text pos must 10 pos pos true [] 0 none (({} : Seen).add 14) none) pos true := by
      show (if (decide (pos > text.size) || decide (text.size - pos < 1)) = true then _ else _) = _
      rw [if_neg (by simp; omega)]; rfl
    have e1 : M.attemptFrom (mk3 text pos must 10 pos pos true [] 0 none (({} : Seen).add 14) none) pos true =
        (match M.admitted (mk3 text pos must 10 pos pos true [] 0 none (({} : Seen).add 14) none) (text.size + 1 - pos) pos (({} : Seen).add 14) with
        | .ok (some s, seen) => M.attemptAt { mk3 text pos must 10 pos pos true [] 0 none (({} : Seen).add 14) none with mustAdvance := false, seen } s true
        | .ok (none, seen) => M.say { mk3 text pos must 10 pos pos true [] 0 none (({} : Seen).add 14) none with seen } false
        | .error why => M.stick (mk3 text pos must 10 pos pos true [] 0 none (({} : Seen).add 14) none) why) := rfl
    rw [e0, e1, e]
    cases hq : nextEnd text (text.size + 1 - pos) pos with
    | none =>
      show Hits 25 (mk3 text pos must 10 pos pos true [] 0 (some false) se none) (Found none)
      exact Hits.mono (Hits.next (k := 0) rfl rfl (Hits.lack rfl)) (by omega)
    | some q =>
      obtain ⟨h1, h2⟩ := nextEnd_spec hq
      show Hits 25 (mk3 text q false 10 q q true [fr1 10 q true] 1 none se none) (Found (some (q, endLen text q)))
      exact Hits.mono (try3 h1 h2) (by omega)
  · have e : forSearch c3 text 0 pos text.size must = { mk3 text pos must 10 pos pos true [] 0 (some false) (({} : Seen).add 14) none with lastStart := 0 } := by
      show (if (decide (pos > text.size) || decide (text.size - pos < 1)) = true then _ else _) = _
      rw [if_pos (by simp; omega)]; rfl
    have hn : nextEnd text (text.size + 1 - pos) pos = none := by
      have e1 : text.size + 1 - pos = 0 + 1 := by omega
      rw [e1]; unfold nextEnd; rw [if_pos (by omega)]
    rw [e, hn]
    show Hits _ _ (Found none)
    exact Hits.mono (Hits.next (k := 0) rfl rfl (Hits.lack rfl)) (by omega)
end Mine.Rx

end

section -- PL
namespace Mine.Pl

def fixEols : List Nat → List Nat
  | [] => []
  | 13 :: 10 :: r => 13 :: 10 :: fixEols r
  | 10 :: r => 13 :: 10 :: fixEols r
  | 13 :: r => 13 :: 10 :: fixEols r
  | c :: r => c :: fixEols r

def quote : Bool → List Nat → List Nat
  | _, [] => []
  | b, c :: r => if b = true ∧ c = 46 then 46 :: 46 :: quote false r else c :: quote (c == 10) r

/-- a text without ends -/
def Plain (l : List Nat) : Prop := ∀ c ∈ l, c ≠ 10 ∧ c ≠ 13

def pairs (torn : Bool) : Nat → List Nat
  | 0 => []
  | n + 1 => (if torn then [10, 13] else [13, 10]) ++ pairs torn n

def lay (r0 r1 r2 r3 : List Nat) (n0 n1 n2 : Nat) (torn : Bool) : List Nat :=
  r0 ++ (pairs torn n0 ++ (r1 ++ (pairs torn n1 ++ (r2 ++ (pairs torn n2 ++ r3)))))

theorem pairs_snoc (torn : Bool) (n : Nat) : pairs torn (n + 1) = pairs torn n ++ (if torn then [10, 13] else [13, 10]) := by
  induction n with
  | zero => simp [pairs]
  | succ n ih =>
    have h : pairs torn (n + 1 + 1) = (if torn then [10, 13] else [13, 10]) ++ pairs torn (n + 1) := rfl
    have h' : pairs torn (n + 1) = (if torn then [10, 13] else [13, 10]) ++ pairs torn n := rfl
    rw [h, ih, ← List.append_assoc, ← h', ih]
theorem pairs_reverse (torn : Bool) (n : Nat) : (pairs torn n).reverse = pairs (!torn) n := by
  induction n with
  | zero => rfl
  | succ n ih => rw [pairs, List.reverse_append, ih, pairs_snoc]; cases torn <;> rfl
theorem pairs_length (torn : Bool) (n : Nat) : (pairs torn n).length = 2 * n := by
  induction n with
  | zero => rfl
  | succ n ih => rw [pairs, List.length_append, ih]; cases torn <;> simp <;> omega

theorem lay_reverse (r0 r1 r2 r3 : List Nat) (n0 n1 n2 : Nat) (torn : Bool) :
    (lay r0 r1 r2 r3 n0 n1 n2 torn).reverse = lay r3.reverse r2.reverse r1.reverse r0.reverse n2 n1 n0 (!torn) := by
  simp only [lay, List.reverse_append, pairs_reverse, List.append_assoc]

/-! mending -/
theorem fix_cons {c : Nat} {r : List Nat} (h : c ≠ 10 ∧ c ≠ 13) : fixEols (c :: r) = c :: fixEols r := by
  rw [fixEols]
  all_goals (intros; omega)
theorem fix_plain : ∀ {b r : List Nat}, Plain b → fixEols (b ++ r) = b ++ fixEols r
  | [], _, _ => rfl
  | c :: b, r, h => by
    rw [List.cons_append, fix_cons (h c (.head _)), fix_plain (fun d hd => h d (.tail _ hd))]; rfl
/-- the text does not begin with a feed -/
def NoFeed (l : List Nat) : Prop := l.head? ≠ some 10
theorem fix_ret {r : List Nat} (h : NoFeed r) : fixEols (13 :: r) = 13 :: 10 :: fixEols r := by
  cases r with
  | nil => rfl
  | cons c r =>
    have : c ≠ 10 := fun e => h (by rw [e]; rfl)
    rw [fixEols]
    intro r' e
    exact this (List.cons.inj e).1
theorem fix_feed {r : List Nat} : fixEols (10 :: r) = 13 :: 10 :: fixEols r := by rw [fixEols]
theorem fix_both {r : List Nat} : fixEols (13 :: 10 :: r) = 13 :: 10 :: fixEols r := by rw [fixEols]
theorem fix_whole (n : Nat) {r : List Nat} : fixEols (pairs false n ++ r) = pairs false n ++ fixEols r := by
  induction n with
  | zero => rfl
  | succ n ih => simp only [pairs, Bool.false_eq_true, if_false, List.cons_append, List.nil_append, fix_both, ih]
theorem torn_eq (n : Nat) : pairs true (n + 1) = 10 :: (pairs false n ++ [13]) := by
  induction n with
  | zero => rfl
  | succ n ih => rw [pairs, ih]; simp [pairs]
theorem fix_torn (n : Nat) {r : List Nat} (h : NoFeed r) : fixEols (pairs true (n + 1) ++ r) = pairs false (n + 2) ++ fixEols r := by
  rw [torn_eq, List.cons_append, List.append_assoc, fix_feed, fix_whole]
  show 13 :: 10 :: (pairs false n ++ fixEols (13 :: r)) = _
  rw [fix_ret h, pairs, pairs_snoc]
  simp
theorem fix_pairs (torn : Bool) {n : Nat} (hn : 1 ≤ n) {r : List Nat} (h : NoFeed r) : fixEols (pairs torn n ++ r) = pairs false (n + torn.toNat) ++ fixEols r := by
  cases torn with
  | false => exact fix_whole n
  | true => obtain ⟨k, rfl⟩ : ∃ k, n = k + 1 := ⟨n - 1, by omega⟩; exact fix_torn k h

theorem noFeed_plain {b r : List Nat} (h : Plain b) (hb : b ≠ [] ∨ r = []) : NoFeed (b ++ r) := by
  cases b with
  | nil =>
    rcases hb with hb | hb
    · exact absurd rfl hb
    · subst hb; simp [NoFeed]
  | cons c b =>
    intro e
    have : c = 10 := by simpa using e
    exact (h c (.head _)).1 this

theorem fix_lay {r0 r1 r2 r3 : List Nat} {n0 n1 n2 : Nat} (torn : Bool) (h0 : Plain r0) (h1 : Plain r1) (h2 : Plain r2) (h3 : Plain r3) (e1 : r1 ≠ []) (e2 : r2 ≠ [])
    (k0 : 1 ≤ n0) (k1 : 1 ≤ n1) (k2 : 1 ≤ n2) :
    fixEols (lay r0 r1 r2 r3 n0 n1 n2 torn) = lay r0 r1 r2 r3 (n0 + torn.toNat) (n1 + torn.toNat) (n2 + torn.toNat) false := by
  unfold lay
  have f3 : fixEols r3 = r3 := by have := fix_plain (r := []) h3; simpa [fixEols] using this
  have f2 : fixEols (pairs torn n2 ++ r3) = pairs false (n2 + torn.toNat) ++ r3 := by
    rw [fix_pairs torn k2 (by have := noFeed_plain (r := []) h3 (.inr rfl); simpa using this), f3]
  rw [fix_plain h0, fix_pairs torn k0 (noFeed_plain h1 (.inl e1)), fix_plain h1, fix_pairs torn k1 (noFeed_plain h2 (.inl e2)), fix_plain h2, f2]

/-! dots -/
def dot (r : List Nat) : List Nat := if r.head? = some 46 then 46 :: r else r
theorem quote_plain : ∀ {b r : List Nat}, Plain b → quote false (b ++ r) = b ++ quote false r
  | [], _, _ => rfl
  | c :: b, r, h => by
    have hc : (c == 10) = false := by simpa using (h c (.head _)).1
    show quote false (c :: (b ++ r)) = _
    rw [quote, if_neg (by simp), hc, quote_plain (fun d hd => h d (.tail _ hd))]; rfl
theorem quote_first {b r : List Nat} (h : Plain b) (hb : b ≠ []) : quote true (b ++ r) = dot b ++ quote false r := by
  cases b with
  | nil => exact absurd rfl hb
  | cons c b =>
    have hr := quote_plain (r := r) (fun d hd => h d (List.mem_cons_of_mem _ hd) : Plain b)
    have hc : (c == 10) = false := by simpa using (h c (.head _)).1
    show quote true (c :: (b ++ r)) = _
    by_cases e : c = 46
    · subst e; rw [quote, if_pos ⟨rfl, rfl⟩, hr]; rfl
    · rw [quote, if_neg (fun q => e q.2), hc, hr]
      simp [dot, e]
theorem quote_whole (n : Nat) {r : List Nat} (b : Bool) : quote b (pairs false (n + 1) ++ r) = pairs false (n + 1) ++ quote true r := by
  induction n generalizing b with
  | zero => simp [pairs, quote]
  | succ n ih =>
    rw [pairs]
    simp only [Bool.false_eq_true, if_false, List.cons_append, List.nil_append]
    rw [quote, if_neg (by omega)]
    show 13 :: quote false (10 :: (pairs false (n + 1) ++ r)) = _
    rw [quote, if_neg (by omega)]
    show 13 :: 10 :: quote true (pairs false (n + 1) ++ r) = _
    rw [ih]
theorem quote_torn (n : Nat) {r : List Nat} (b : Bool) : quote b (pairs true (n + 1) ++ r) = pairs true (n + 1) ++ quote false r := by
  induction n generalizing b with
  | zero => simp [pairs, quote]
  | succ n ih =>
    rw [pairs]
    simp only [if_true, List.cons_append, List.nil_append]
    rw [quote, if_neg (by omega)]
    show 10 :: quote true (13 :: (pairs true (n + 1) ++ r)) = _
    rw [quote, if_neg (by omega)]
    show 10 :: 13 :: quote false (pairs true (n + 1) ++ r) = _
    rw [ih]
theorem quote_pairs (torn : Bool) {n : Nat} (hn : 1 ≤ n) {r : List Nat} (b : Bool) : quote b (pairs torn n ++ r) = pairs torn n ++ quote (!torn) r := by
  obtain ⟨k, rfl⟩ : ∃ k, n = k + 1 := ⟨n - 1, by omega⟩
  cases torn with
  | false => exact quote_whole k b
  | true => exact quote_torn k b
theorem quote_row (b : Bool) {r t : List Nat} (h : Plain r) (hr : r ≠ []) : quote b (r ++ t) = (if b then dot r else r) ++ quote false t := by
  cases b with
  | true => exact quote_first h hr
  | false => exact quote_plain h
theorem quote_last (b : Bool) {r : List Nat} (h : Plain r) : quote b r = if b then dot r else r := by
  by_cases hr : r = []
  · subst hr; cases b <;> rfl
  · have := quote_row b (t := []) h hr
    simpa [quote] using this

theorem quote_lay {r0 r1 r2 r3 : List Nat} {n0 n1 n2 : Nat} (torn : Bool) (h0 : Plain r0) (h1 : Plain r1) (h2 : Plain r2) (h3 : Plain r3) (e1 : r1 ≠ []) (e2 : r2 ≠ [])
    (k0 : 1 ≤ n0) (k1 : 1 ≤ n1) (k2 : 1 ≤ n2) :
    quote true (lay r0 r1 r2 r3 n0 n1 n2 torn) = lay (dot r0) (if torn then r1 else dot r1) (if torn then r2 else dot r2) (if torn then r3 else dot r3) n0 n1 n2 torn := by
  have f2 : ∀ b, quote b (pairs torn n2 ++ r3) = pairs torn n2 ++ (if torn then r3 else dot r3) := fun b => by
    rw [quote_pairs torn k2, quote_last _ h3]; cases torn <;> rfl
  have f1 : ∀ b, quote b (pairs torn n1 ++ (r2 ++ (pairs torn n2 ++ r3))) = pairs torn n1 ++ ((if torn then r2 else dot r2) ++ (pairs torn n2 ++ (if torn then r3 else dot r3))) := fun b => by
    rw [quote_pairs torn k1, quote_row _ h2 e2, f2]; cases torn <;> rfl
  have f0 : ∀ b, quote b (pairs torn n0 ++ (r1 ++ (pairs torn n1 ++ (r2 ++ (pairs torn n2 ++ r3))))) = pairs torn n0 ++ ((if torn then r1 else dot r1) ++ (pairs torn n1 ++ ((if torn then r2 else dot r2) ++ (pairs torn n2 ++ (if torn then r3 else dot r3))))) := fun b => by
    rw [quote_pairs torn k0, quote_row _ h1 e1, f1]; cases torn <;> rfl
  unfold lay
  by_cases hr : r0 = []
  · subst hr
    show quote true (pairs torn n0 ++ _) = [] ++ _
    rw [f0]; rfl
  · rw [quote_first h0 hr, f0]

/-! rows -/
def row (b : List Nat) (ahead behind : Nat) : List Nat :=
  List.replicate (if b.head? = some 46 then ahead else 0) 46 ++ (b ++ List.replicate (if b.getLast? = some 46 then behind else 0) 46)

theorem row_plain {b : List Nat} (h : Plain b) (a c : Nat) : Plain (row b a c) := by
  intro x hx
  simp only [row, List.mem_append, List.mem_replicate] at hx
  rcases hx with ⟨_, rfl⟩ | hx | ⟨_, rfl⟩
  · decide
  · exact h x hx
  · decide
theorem row_ne {b : List Nat} (h : b ≠ []) (a c : Nat) : row b a c ≠ [] := by
  simp [row, h]
theorem row_reverse (b : List Nat) (a c : Nat) : (row b a c).reverse = row b.reverse c a := by
  simp [row, List.append_assoc]
theorem row_head (b : List Nat) (a c : Nat) : ((row b a c).head? = some 46) ↔ b.head? = some 46 := by
  cases b with
  | nil => simp [row]
  | cons x b =>
    by_cases hx : x = 46
    · subst hx
      cases a with
      | zero => simp [row]
      | succ a => simp [row, List.replicate_succ]
    · simp [row, hx]
theorem dot_row (b : List Nat) (a c : Nat) : dot (row b a c) = row b (a + 1) c := by
  unfold dot
  by_cases h : b.head? = some 46
  · rw [if_pos ((row_head b a c).mpr h)]
    simp [row, h, List.replicate_succ]
  · rw [if_neg (fun q => h ((row_head b a c).mp q))]
    simp [row, h]

/-! the told text and its deeds -/
structure Tale where
  fro : Bool := false
  torn : Bool := false
  more : Nat := 0
  front : Nat := 0
  back : Nat := 0
  head : Nat := 0
  tail : Nat := 0

def told (b0 b1 b2 b3 : List Nat) (e0 e1 e2 : Nat) (t : Tale) : List Nat :=
  if t.fro then lay (row b3 t.front (t.back + t.tail)).reverse (row b2 t.front t.back).reverse (row b1 t.front t.back).reverse (row b0 (t.front + t.head) t.back).reverse (e2 + t.more) (e1 + t.more) (e0 + t.more) t.torn
  else lay (row b0 (t.front + t.head) t.back) (row b1 t.front t.back) (row b2 t.front t.back) (row b3 t.front (t.back + t.tail)) (e0 + t.more) (e1 + t.more) (e2 + t.more) t.torn

def Tale.turn (t : Tale) : Tale := { t with fro := !t.fro, torn := !t.torn }
def Tale.mend (t : Tale) : Tale := { t with more := t.more + t.torn.toNat, torn := false }
def Tale.dots (t : Tale) : Tale :=
  if t.torn then (if t.fro then { t with tail := t.tail + 1 } else { t with head := t.head + 1 })
  else (if t.fro then { t with back := t.back + 1 } else { t with front := t.front + 1 })

structure Good (b0 b1 b2 b3 : List Nat) (e0 e1 e2 : Nat) : Prop where
  p0 : Plain b0
  p1 : Plain b1
  p2 : Plain b2
  p3 : Plain b3
  n1 : b1 ≠ []
  n2 : b2 ≠ []
  k0 : 1 ≤ e0
  k1 : 1 ≤ e1
  k2 : 1 ≤ e2

theorem plain_reverse {l : List Nat} (h : Plain l) : Plain l.reverse := fun c hc => h c (List.mem_reverse.mp hc)
theorem ne_reverse {l : List Nat} (h : l ≠ []) : l.reverse ≠ [] := by simpa using h

variable {b0 b1 b2 b3 : List Nat} {e0 e1 e2 : Nat}

theorem told_turn (t : Tale) : (told b0 b1 b2 b3 e0 e1 e2 t).reverse = told b0 b1 b2 b3 e0 e1 e2 t.turn := by
  unfold told Tale.turn
  cases t.fro
  · simp only [Bool.false_eq_true, if_false, Bool.not_false, if_true]; exact lay_reverse ..
  · simp only [Bool.false_eq_true, if_false, Bool.not_true, if_true]
    rw [lay_reverse]; simp only [List.reverse_reverse]

theorem told_mend (g : Good b0 b1 b2 b3 e0 e1 e2) (t : Tale) : fixEols (told b0 b1 b2 b3 e0 e1 e2 t) = told b0 b1 b2 b3 e0 e1 e2 t.mend := by
  obtain ⟨p0, p1, p2, p3, n1, n2, k0, k1, k2⟩ := g
  unfold told Tale.mend
  cases t.fro
  · simp only [Bool.false_eq_true, if_false]
    rw [fix_lay t.torn (row_plain p0 _ _) (row_plain p1 _ _) (row_plain p2 _ _) (row_plain p3 _ _) (row_ne n1 _ _) (row_ne n2 _ _) (by omega) (by omega) (by omega)]
    simp only [Nat.add_assoc]
  · simp only [if_true]
    rw [fix_lay t.torn (plain_reverse (row_plain p3 _ _)) (plain_reverse (row_plain p2 _ _)) (plain_reverse (row_plain p1 _ _)) (plain_reverse (row_plain p0 _ _)) (ne_reverse (row_ne n2 _ _)) (ne_reverse (row_ne n1 _ _)) (by omega) (by omega) (by omega)]
    simp only [Nat.add_assoc]

theorem told_dots (g : Good b0 b1 b2 b3 e0 e1 e2) (t : Tale) : quote true (told b0 b1 b2 b3 e0 e1 e2 t) = told b0 b1 b2 b3 e0 e1 e2 t.dots := by
  obtain ⟨p0, p1, p2, p3, n1, n2, k0, k1, k2⟩ := g
  unfold told Tale.dots
  cases hf : t.fro
  · simp only [Bool.false_eq_true, if_false]
    rw [quote_lay t.torn (row_plain p0 _ _) (row_plain p1 _ _) (row_plain p2 _ _) (row_plain p3 _ _) (row_ne n1 _ _) (row_ne n2 _ _) (by omega) (by omega) (by omega)]
    cases ht : t.torn
    · simp only [Bool.false_eq_true, if_false, dot_row]
      rw [Nat.add_right_comm]
    · simp only [if_true, dot_row, Bool.false_eq_true, if_false]
      rw [Nat.add_assoc]
  · simp only [if_true]
    rw [quote_lay t.torn (plain_reverse (row_plain p3 _ _)) (plain_reverse (row_plain p2 _ _)) (plain_reverse (row_plain p1 _ _)) (plain_reverse (row_plain p0 _ _)) (ne_reverse (row_ne n2 _ _)) (ne_reverse (row_ne n1 _ _)) (by omega) (by omega) (by omega)]
    cases ht : t.torn
    · simp only [Bool.false_eq_true, if_false, row_reverse, dot_row, if_true]
      rw [Nat.add_right_comm]
    · simp only [if_true, row_reverse, dot_row]
      rw [Nat.add_assoc]

/-! the first mending -/
def ends : List Nat → Nat
  | 13 :: 10 :: r => ends r + 1
  | _ :: r => ends r + 1
  | [] => 0
def OnlyEnds (l : List Nat) : Prop := ∀ c ∈ l, c = 10 ∨ c = 13
theorem fix_run : ∀ (run : List Nat) {r : List Nat}, OnlyEnds run → NoFeed r → fixEols (run ++ r) = pairs false (ends run) ++ fixEols r
  | [], _, _, _ => rfl
  | [c], r, h, hr => by
    rcases h c (.head _) with rfl | rfl
    · show fixEols (10 :: r) = _
      rw [fix_feed]; rfl
    · show fixEols (13 :: r) = _
      rw [fix_ret hr]; rfl
  | c :: d :: run, r, h, hr => by
    have hd := h d (.tail _ (.head _))
    rcases h c (.head _) with rfl | rfl
    · have ih := fix_run (d :: run) (fun x hx => h x (.tail _ hx)) hr
      show fixEols (10 :: (d :: run ++ r)) = _
      rw [fix_feed, ih]
      have : ends (10 :: d :: run) = ends (d :: run) + 1 := by simp [ends]
      rw [this, pairs]; rfl
    · rcases hd with rfl | rfl
      · have ih := fix_run run (fun x hx => h x (.tail _ (.tail _ hx))) hr
        show fixEols (13 :: 10 :: (run ++ r)) = _
        rw [fix_both, ih]
        have : ends (13 :: 10 :: run) = ends run + 1 := by simp [ends]
        rw [this, pairs]; rfl
      · have ih := fix_run (13 :: run) (fun x hx => h x (.tail _ hx)) hr
        show fixEols (13 :: (13 :: run ++ r)) = _
        rw [fix_ret (by simp [NoFeed]), ih]
        have : ends (13 :: 13 :: run) = ends (13 :: run) + 1 := by simp [ends]
        rw [this, pairs]; rfl

theorem told_first {u0 u1 u2 : List Nat} (p0 : Plain b0) (p1 : Plain b1) (p2 : Plain b2) (p3 : Plain b3) (n1 : b1 ≠ []) (n2 : b2 ≠ []) (o0 : OnlyEnds u0) (o1 : OnlyEnds u1) (o2 : OnlyEnds u2) :
    fixEols (b0 ++ (u0 ++ (b1 ++ (u1 ++ (b2 ++ (u2 ++ b3)))))) = told b0 b1 b2 b3 (ends u0) (ends u1) (ends u2) {} := by
  have f3 : fixEols b3 = b3 := by have := fix_plain (r := []) p3; simpa [fixEols] using this
  have z : ∀ b : List Nat, row b 0 0 = b := fun b => by simp [row]
  rw [fix_plain p0, fix_run u0 o0 (noFeed_plain p1 (.inl n1)), fix_plain p1, fix_run u1 o1 (noFeed_plain p2 (.inl n2)), fix_plain p2, fix_run u2 o2 (by have := noFeed_plain (r := []) p3 (.inr rfl); simpa using this), f3]
  simp only [told, Bool.false_eq_true, if_false, Nat.add_zero, z, lay]
end Mine.Pl

end

section -- RP
namespace Mine.Rx
open PySem.Sre Mine.Pl

def next1 (text : Array Nat) (d : Nat) : Option (Nat × Nat) := (nextDot text (text.size + 1 - d) d).map fun q => (q, q + 1)
def next3 (text : Array Nat) (d : Nat) : Option (Nat × Nat) := (nextEnd text (text.size + 1 - d) d).map fun q => (q, endLen text q)

/-- the pieces that the loop of sub lays, from the place d on -/
def subAll (text : Array Nat) (next : Nat → Option (Nat × Nat)) (repl : Array Nat) : Nat → Nat → List (Array Nat)
  | 0, _ => []
  | f + 1, d => match next d with
    | some (p, e) => (if d < p then [text.extract d p] else []) ++ (repl :: subAll text next repl f e)
    | none => if d < text.size then [text.extract d text.size] else []

def glue (ps : List (Array Nat)) : List Nat := (ps.map (·.toList)).flatten
theorem glue_append (a b : List (Array Nat)) : glue (a ++ b) = glue a ++ glue b := by simp [glue]

variable {text : Array Nat}
theorem slice_toList {d p : Nat} : (text.extract d p).toList = (text.toList.drop d).take (p - d) := by
  simp [Array.toList_extract, List.extract]

theorem drop_getD {d : Nat} (h : d < text.size) : text.toList.drop d = text.getD d 0 :: text.toList.drop (d + 1) := by
  rw [List.drop_eq_getElem_cons (by simpa using h)]
  simp [Array.getD, h]

/-! ends -/
theorem nextEnd_none : ∀ {f d : Nat}, d + f = text.size + 1 → nextEnd text f d = none → Plain (text.toList.drop d)
  | 0, d, h, _ => by rw [List.drop_eq_nil_of_le (by simp; omega)]; intro c hc; cases hc
  | f + 1, d, h, e => by
    unfold nextEnd at e
    split at e
    · rw [List.drop_eq_nil_of_le (by simp; omega)]; intro c hc; cases hc
    · rename_i hlt
      split at e
      · cases e
      · rename_i hc
        rw [drop_getD (by omega)]
        simp only [Bool.or_eq_true, beq_iff_eq, not_or] at hc
        intro c hm
        rcases List.mem_cons.mp hm with rfl | hm
        · exact hc
        · exact nextEnd_none (by omega) e c hm
theorem nextEnd_some : ∀ {f d q : Nat}, nextEnd text f d = some q → d ≤ q ∧ q < text.size ∧ (text.getD q 0 = 10 ∨ text.getD q 0 = 13) ∧ Plain ((text.toList.drop d).take (q - d)) ∧ text.toList.drop d = (text.toList.drop d).take (q - d) ++ text.toList.drop q
  | 0, _, _, e => by cases e
  | f + 1, d, q, e => by
    unfold nextEnd at e
    split at e
    · cases e
    · rename_i hlt
      split at e
      · rename_i hc
        cases e
        simp only [Bool.or_eq_true, beq_iff_eq] at hc
        refine ⟨Nat.le_refl _, by omega, hc, by simp [Plain], by simp⟩
      · rename_i hc
        simp only [Bool.or_eq_true, beq_iff_eq, not_or] at hc
        obtain ⟨h1, h2, h3, h4, h5⟩ := nextEnd_some e
        have e1 : q - d = (q - (d + 1)) + 1 := by omega
        have e2 := drop_getD (text := text) (d := d) (by omega)
        have e3 : (text.toList.drop d).take (q - d) = text.getD d 0 :: (text.toList.drop (d + 1)).take (q - (d + 1)) := by rw [e1, e2, List.take_succ_cons]
        refine ⟨by omega, h2, h3, ?_, ?_⟩
        · rw [e3]
          intro c hm
          rcases List.mem_cons.mp hm with rfl | hm
          · exact hc
          · exact h4 c hm
        · rw [e3, List.cons_append, ← h5, e2]
theorem endLen_bound {q : Nat} (h : q < text.size) : q < endLen text q ∧ endLen text q ≤ text.size := by
  unfold endLen
  by_cases hc : text.getD q 0 = 13 ∧ q + 1 < text.size ∧ text.getD (q + 1) 0 = 10
  · rw [if_pos hc]; omega
  · rw [if_neg hc]; omega
theorem fix_end {q : Nat} (h : q < text.size) (hc : text.getD q 0 = 10 ∨ text.getD q 0 = 13) : fixEols (text.toList.drop q) = 13 :: 10 :: fixEols (text.toList.drop (endLen text q)) := by
  rw [drop_getD h]
  rcases hc with hc | hc
  · rw [hc, fix_feed]
    have : endLen text q = q + 1 := by unfold endLen; rw [if_neg (by omega)]
    rw [this]
  · rw [hc]
    unfold endLen
    by_cases h2 : q + 1 < text.size
    · by_cases h3 : text.getD (q + 1) 0 = 10
      · rw [if_pos ⟨hc, h2, h3⟩, drop_getD h2, h3, fix_both]
      · rw [if_neg (fun x => h3 x.2.2), fix_ret]
        rw [drop_getD h2]
        intro x
        exact h3 (Option.some.inj x)
    · rw [if_neg (fun x => h2 x.2.1), fix_ret]
      rw [List.drop_eq_nil_of_le (by simp; omega)]
      intro x; cases x

theorem glue_ends : ∀ (f d : Nat), text.size < d + f → d ≤ text.size → glue (subAll text (next3 text) #[13, 10] f d) = fixEols (text.toList.drop d)
  | 0, d, h, h' => by omega
  | f + 1, d, h, h' => by
    unfold subAll
    cases hn : nextEnd text (text.size + 1 - d) d with
    | none =>
      have e : next3 text d = none := by unfold next3; rw [hn]; rfl
      rw [e]
      have hp := nextEnd_none (by omega) hn
      have hf : fixEols (text.toList.drop d) = text.toList.drop d := by have := fix_plain (r := []) hp; simpa [fixEols] using this
      rw [hf]
      dsimp only
      split
      · have : List.take (text.size - d) (List.drop d text.toList) = List.drop d text.toList := List.take_of_length_le (by simp)
        simp [glue, this]
      · rw [List.drop_eq_nil_of_le (by simp; omega)]; rfl
    | some q =>
      have e : next3 text d = some (q, endLen text q) := by unfold next3; rw [hn]; rfl
      rw [e]
      obtain ⟨h1, h2, h3, h4, h5⟩ := nextEnd_some hn
      have hb := endLen_bound (text := text) h2
      have ih := glue_ends f (endLen text q) (by omega) hb.2
      rw [h5, fix_plain h4, fix_end h2 h3]
      dsimp only
      rw [glue_append]
      have e1 : glue (if d < q then [text.extract d q] else []) = (text.toList.drop d).take (q - d) := by
        split
        · simp [glue]
        · have : q - d = 0 := by omega
          rw [this]; rfl
      rw [e1]
      show _ ++ ([13, 10] ++ glue (subAll text (next3 text) #[13, 10] f (endLen text q))) = _
      rw [ih]; rfl

/-! dots -/
theorem bol_succ (d : Nat) : bol text (d + 1) = (text.getD d 0 == 10) := by simp [bol]
theorem quote_step {d : Nat} (h : d < text.size) (hd : atDot text d = false) : quote (bol text d) (text.toList.drop d) = text.getD d 0 :: quote (bol text (d + 1)) (text.toList.drop (d + 1)) := by
  rw [drop_getD h, quote, bol_succ, if_neg]
  intro q
  have : atDot text d = true := by
    unfold atDot; rw [q.1, q.2]; simpa using h
  rw [hd] at this; cases this
theorem quote_dot {d : Nat} (hd : atDot text d = true) : quote (bol text d) (text.toList.drop d) = 46 :: 46 :: quote (bol text (d + 1)) (text.toList.drop (d + 1)) := by
  simp only [atDot, Bool.and_eq_true, decide_eq_true_eq, beq_iff_eq] at hd
  rw [drop_getD hd.1.2, quote, bol_succ, if_pos ⟨hd.1.1, hd.2⟩, hd.2]; rfl
theorem nextDot_none : ∀ {f d : Nat}, d + f = text.size + 1 → nextDot text f d = none → quote (bol text d) (text.toList.drop d) = text.toList.drop d
  | 0, d, h, _ => by rw [List.drop_eq_nil_of_le (by simp; omega)]; rfl
  | f + 1, d, h, e => by
    unfold nextDot at e
    split at e
    · cases e
    · rename_i hd
      by_cases hlt : d < text.size
      · rw [quote_step hlt (by simpa using hd), nextDot_none (by omega) e, ← drop_getD hlt]
      · rw [List.drop_eq_nil_of_le (by simp; omega)]; rfl
theorem nextDot_some : ∀ {f d q : Nat}, nextDot text f d = some q → d ≤ q ∧ q < text.size ∧ quote (bol text d) (text.toList.drop d) = (text.toList.drop d).take (q - d) ++ (46 :: 46 :: quote (bol text (q + 1)) (text.toList.drop (q + 1)))
  | 0, _, _, e => by cases e
  | f + 1, d, q, e => by
    unfold nextDot at e
    split at e
    · rename_i hd
      cases e
      have hd' := hd
      simp only [atDot, Bool.and_eq_true, decide_eq_true_eq, beq_iff_eq] at hd'
      exact ⟨Nat.le_refl _, hd'.1.2, by rw [quote_dot hd]; simp⟩
    · rename_i hd
      obtain ⟨h1, h2, h3⟩ := nextDot_some e
      have e1 : q - d = (q - (d + 1)) + 1 := by omega
      have e2 := drop_getD (text := text) (d := d) (by omega)
      refine ⟨by omega, h2, ?_⟩
      rw [quote_step (by omega) (by simpa using hd), h3, e1, e2, List.take_succ_cons]; rfl

theorem glue_dots : ∀ (f d : Nat), text.size < d + f → d ≤ text.size → glue (subAll text (next1 text) #[46, 46] f d) = quote (bol text d) (text.toList.drop d)
  | 0, d, h, h' => by omega
  | f + 1, d, h, h' => by
    unfold subAll
    cases hn : nextDot text (text.size + 1 - d) d with
    | none =>
      have e : next1 text d = none := by unfold next1; rw [hn]; rfl
      rw [e, nextDot_none (by omega) hn]
      dsimp only
      split
      · have : List.take (text.size - d) (List.drop d text.toList) = List.drop d text.toList := List.take_of_length_le (by simp)
        simp [glue, this]
      · rw [List.drop_eq_nil_of_le (by simp; omega)]; rfl
    | some q =>
      have e : next1 text d = some (q, q + 1) := by unfold next1; rw [hn]; rfl
      rw [e]
      obtain ⟨h1, h2, h3⟩ := nextDot_some hn
      have ih := glue_dots f (q + 1) (by omega) (by omega)
      rw [h3]
      dsimp only
      rw [glue_append]
      have e1 : glue (if d < q then [text.extract d q] else []) = (text.toList.drop d).take (q - d) := by
        split
        · simp [glue]
        · have : q - d = 0 := by omega
          rw [this]; rfl
      rw [e1]
      show _ ++ ([46, 46] ++ glue (subAll text (next1 text) #[46, 46] f (q + 1))) = _
      rw [ih]; rfl

theorem ends_all : glue (subAll text (next3 text) #[13, 10] (text.size + 1) 0) = fixEols text.toList := by
  rw [glue_ends _ _ (by omega) (by omega)]; rfl
theorem dots_all : glue (subAll text (next1 text) #[46, 46] (text.size + 1) 0) = quote true text.toList := by
  rw [glue_dots _ _ (by omega) (by omega)]; rfl

/-- a next that goes on: what sub's loop asks of it -/
structure Onward (text : Array Nat) (next : Nat → Option (Nat × Nat)) : Prop where
  some : ∀ d p e, d ≤ text.size → next d = some (p, e) → d ≤ p ∧ p < e ∧ e ≤ text.size
theorem onward1 : Onward text (next1 text) := ⟨fun d p e hd h => by
  unfold next1 at h
  cases hn : nextDot text (text.size + 1 - d) d with
  | none => rw [hn] at h; cases h
  | some q =>
    rw [hn] at h; cases h
    have := nextDot_some hn
    omega⟩
theorem onward3 : Onward text (next3 text) := ⟨fun d p e hd h => by
  unfold next3 at h
  cases hn : nextEnd text (text.size + 1 - d) d with
  | none => rw [hn] at h; cases h
  | some q =>
    rw [hn] at h; cases h
    have h1 := nextEnd_some hn
    have h2 := endLen_bound (text := text) h1.2.1
    omega⟩
end Mine.Rx

end

section -- CL
set_option maxRecDepth 100000
namespace Mine
open PySem PyProof.Rows PySem.Calls
open PySem.Sem (wp)

/-! A wp of calls without raises, in contexts whose stack bears no decoder that holds its argument. -/
def decodes : Code → Bool
  | .builtin id _ => Builtin.Bytes.decodersThatHold.contains id
  | _ => false
def CleanB (l : List (Code × Pos)) : Prop := ∀ x ∈ l, decodes x.1 = false
def Clean (Γ : Ctx) : Prop := decodes Γ.code = false ∧ CleanB Γ.below

def wpc {α : Type} (M : Model) (A : Around) (t : Sem α) (Q : α → Shared → Prop) (s : Shared) : Prop :=
  ∀ Γ p, Γ.In A → Clean Γ → wp M Γ t (fun a _ s' => Q a s') (fun _ _ _ => False) p s
def codec (M : Model) (A : Around) (c : Code) (R : Flow → Shared → Prop) (s : Shared) : Prop :=
  ∀ Γ p, Γ.code = c → Γ.Below A → CleanB Γ.below → wpCode M Γ (fun r s' => ∃ f, r = .ok f ∧ R f s') p s

/-- no raise -/
abbrev NoE : Value → Shared → Prop := fun _ _ => False

section
variable {α β : Type} {M : Model} {A : Around} {s : Shared} {env : Env}

theorem wpc_any {t : Sem α} {Q : α → Shared → Prop} (h : wpAny M A t Q NoE s) : wpc M A t Q s := fun Γ p hΓ _ => h Γ p hΓ
theorem wpc_mono {t : Sem α} {Q Q' : α → Shared → Prop} (h : wpc M A t Q s) (hQ : ∀ a s, Q a s → Q' a s) : wpc M A t Q' s :=
  fun Γ p hΓ hc => Sem.wp_mono M Γ t (fun a _ s => hQ a s) (fun _ _ _ x => x) p s (h Γ p hΓ hc)
theorem wpc_pure {a : α} {Q : α → Shared → Prop} (h : Q a s) : wpc M A (pure a) Q s := fun _ _ _ _ => h
theorem wpc_bind {m : Sem α} {f : α → Sem β} {Q : β → Shared → Prop} (h : wpc M A m (fun a s' => wpc M A (f a) Q s') s) : wpc M A (m >>= f) Q s := fun Γ p hΓ hc => by
  rw [Sem.wp_bind']
  exact Sem.wp_mono M Γ m (fun a p' s' h' => h' Γ p' hΓ hc) (fun _ _ _ h' => h') p s (h Γ p hΓ hc)
theorem wpc_holding {vs : List Value} {m : Sem α} {Q : α → Shared → Prop} (h : wpc M A m Q s) : wpc M A (holding vs m) Q s :=
  fun Γ p hΓ hc => by rw [Sem.wp_holding]; exact h Γ p hΓ hc
theorem wpc_keep {vs : List Value} {m : Sem α} {Q : α → Shared → Prop} (h : wpc M A m Q s) : wpc M A (m.keep vs) Q s :=
  fun Γ p hΓ hc => by rw [Sem.wp_keep]; exact h Γ p hΓ hc
theorem wpc_onRaise {m : Sem α} {k : Value → Sem Unit} {Q : α → Shared → Prop} (h : wpc M A m Q s) : wpc M A (m.onRaise k) Q s := fun Γ p hΓ hc => by
  rw [Sem.wp_onRaise]
  exact Sem.wp_mono M Γ m (fun _ _ _ h' => h') (fun _ _ _ h' => h'.elim) p s (h Γ p hΓ hc)
theorem wpc_standAt {pos : Pos} {Q : Unit → Shared → Prop} (h : Q () s) : wpc M A (standAt pos) Q s := fun _ _ _ _ => h
theorem wpc_of_eq {t : Sem α} {a : α} {Q : α → Shared → Prop} (e : t = pure a) (h : Q a s) : wpc M A t Q s := by subst e; exact wpc_pure h
theorem wpc_units {t : Sem α} {Q : α → Shared → Prop} (h : wpc M A.in1 t Q s) : wpc M A t Q s :=
  fun Γ p hΓ => h Γ p ⟨hΓ.1, hΓ.2.1, hΓ.2.2.1, hΓ.2.2.2.1, Nat.le_succ_of_le hΓ.2.2.2.2⟩

theorem codec_any {c : Code} {R : Flow → Shared → Prop} (h : codeAny M A c (fun r s' => ∃ f, r = .ok f ∧ R f s') s) : codec M A c R s := fun Γ p hc hΓ _ => h Γ p hc hΓ
theorem codec_mono {c : Code} {R R' : Flow → Shared → Prop} (h : codec M A c R s) (hR : ∀ f s, R f s → R' f s) : codec M A c R' s :=
  fun Γ p hc hΓ hb => wpCode_mono (fun _ s' ⟨f, e, r⟩ => ⟨f, e, hR f s' r⟩) (h Γ p hc hΓ hb)
theorem codec_tree {c : Code} {R : Flow → Shared → Prop} (hd : decodes c = false)
    (h : wpc M (A.under c) (M.den c) (fun fin s' => match fin with | .done f => R f s' | .again c' => c'.quiet = true ∧ codec M A c' R s') s) : codec M A c R s := fun Γ p hc hΓ hb => by
  rw [wpCode_iff_wp, hc]
  refine Sem.wp_mono M Γ _ (fun fin p' s' h' => ?_) (fun _ _ _ h' => h'.elim) p s (h Γ p (hc ▸ hΓ.in) ⟨by rw [hc]; exact hd, hb⟩)
  cases fin with
  | done f => exact ⟨f, rfl, h'⟩
  | again c' => exact ⟨h'.1, h'.2 (Γ.goto c') p' rfl (hΓ.goto c') hb⟩
theorem codec_loop {c : Code} {R : Flow → Shared → Prop} (hd : decodes c = false) (hq : c.quiet = true) (I : Nat → Shared → Prop)
    (turn : ∀ n s, I n s → wpc M (A.under c) (M.den c) (fun fin s' => match fin with | .done f => R f s' | .again c' => (c' = c ∧ ∃ m, m < n ∧ I m s') ∨ (c'.quiet = true ∧ codec M A c' R s')) s)
    (n : Nat) (h : I n s) : codec M A c R s := by
  induction n using Nat.strongRecOn generalizing s with
  | ind n ih =>
    refine codec_tree hd (wpc_mono (turn n s h) (fun fin s' hf => ?_))
    cases fin with
    | done f => exact hf
    | again c' =>
      rcases hf with ⟨rfl, m, hm, hI⟩ | hf
      · exact ⟨hq, ih m hm hI⟩
      · exact hf

theorem enter_clean {Γ : Ctx} (h : Clean Γ) (c : Code) (hd : Option Value) (p : Pos) : CleanB (Γ.enter c hd p).below := by
  intro x hx
  rcases List.mem_cons.mp hx with rfl | hx
  · exact h.1
  · exact h.2 x hx
theorem wpc_run {c : Code} {h : Option Value} {Q : Flow → Shared → Prop} (hc : codec M (A.mark h) c Q s) (hnb : h ≠ some byPass := by intro x; cases x) :
    wpc M A (run c h) Q s := fun Γ p hΓ hcl => by
  rw [Sem.wp_run]
  refine wpCode_mono (fun r s' hr => ?_) (hc _ p rfl (hΓ.enter c h p hnb) (enter_clean hcl c h p))
  obtain ⟨f, rfl, hf⟩ := hr; exact hf
theorem wpc_runOwn {c : Code} {h : Option Value} {Q : Flow → Shared → Prop} (hc : codec M (A.mark h) c Q s) (hnb : h ≠ some byPass := by intro x; cases x) :
    wpc M A (runOwn c env h) Q s := by
  unfold runOwn; exact wpc_onRaise (wpc_run hc hnb)
theorem wpc_call {f : Value} {pos : List Value} {kw : List (Str × Value)} {Q : Value → Shared → Prop} (hc : codec M A (.call f ⟨pos, kw⟩) (fun fl s' => ∃ v, fl = .ret v ∧ Q v s') s) :
    wpc M A (call f pos kw) Q s := fun Γ p hΓ hcl => by
  show wp M Γ (runValue (.call f ⟨pos, kw⟩)) _ _ p s
  rw [Sem.wp_runValue]
  refine wpCode_mono (fun r s' hr => ?_) (hc _ p rfl (hΓ.enter _ none p (by intro x; cases x)) (enter_clean hcl _ none p))
  obtain ⟨f, rfl, v, rfl, hv⟩ := hr; exact hv

theorem wpc_execs_cons {st rest} {Q : Flow → Shared → Prop}
    (h : wpc M A (exec st env) (fun f s' => match f with | .next => wpc M A (execs rest env) Q s' | f => Q f s') s) : wpc M A (execs (st :: rest) env) Q s := by
  rw [execs_cons]
  refine wpc_bind (wpc_mono h fun f s' h' => ?_)
  cases f <;> first | exact h' | exact wpc_pure h'
theorem wpc_If {test body orelse pos} {Q : Flow → Shared → Prop}
    (h : wpAny M A (isTrue test env (eval test env)) (fun b s₂ => if b then wpc M A (execs body env) Q s₂ else wpc M A (execs orelse env) Q s₂) NoE s) :
    wpc M A (exec (.If test body orelse pos) env) Q s := by
  rw [exec_If]
  refine wpc_bind (wpc_standAt (wpc_bind (wpc_mono (wpc_any h) fun b s₂ h₂ => ?_)))
  cases b <;> exact h₂
theorem wpc_Assign_Name {x : Str} {pos' : Pos} {value : Expr} {pos : Pos} {Q : Flow → Shared → Prop}
    (h : wpc M A (eval value env) (fun v s₁ => wpAny M A (storeName env x v) (fun _ => Q .next) NoE s₁) s)
    (hs : swapsWith value (some (.Name x pos')) pos.line env = pure false := by rfl) :
    wpc M A (exec (.Assign [.Name x pos'] value pos) env) Q s := by
  rw [exec_Assign_Name env x pos' value pos hs]
  exact wpc_bind (wpc_standAt (wpc_bind (wpc_mono h fun v s₁ h₁ => wpc_bind (wpc_standAt (wpc_bind (wpc_mono (wpc_any (wpAny_bindName h₁)) fun _ _ q => wpc_pure q))))))
theorem wpc_Return_some {e pos} {Q : Flow → Shared → Prop} (h : wpc M A (eval e env) (fun v => Q (.ret v)) s) :
    wpc M A (exec (.Return (some e) pos) env) Q s := by
  rw [exec_Return_some]
  exact wpc_bind (wpc_standAt (wpc_bind (wpc_mono h fun v s₁ h₁ => wpc_pure h₁)))
theorem wpc_For {target iter body orelse pos} {Q : Flow → Shared → Prop}
    (h : wpAny M A (eval iter env) (fun x s₁ => wpAny M A (pyIter x) (fun it s₂ => codec M A (.forLoop target it body orelse env) Q s₂) NoE s₁) NoE s)
    (hs : ∀ x, foldedSetIterable iter env x = pure x := by intro _; rfl) :
    wpc M A (exec (.For target iter body orelse pos) env) Q s := by
  rw [exec_For]
  exact wpc_bind (wpc_standAt (wpc_bind (wpc_mono (wpc_any h) fun x s₁ h₁ => wpc_bind (wpc_of_eq (hs x) (wpc_bind (wpc_standAt (wpc_bind (wpc_holding
    (wpc_mono (wpc_any h₁) fun it s₂ h₂ => wpc_runOwn h₂))))))))) 
end

section
variable {prog : Program} {w : World} {A : Around} {s : Shared} {env : Env}

theorem codec_func {body env} {R : Flow → Shared → Prop} (h : wpc (model prog w) (A.deeper env) (execs body env) (fun f s' => R (.ret (match f with | .ret v => v | _ => .none)) s') s) :
    codec (model prog w) A (.func body env) R s := by
  refine codec_tree rfl ?_
  show wpc _ (A.deeper env) (do point; match ← (execs body env).onRaise (leaving env) with | .ret v => ret v | _ => ret .none) _ s
  refine wpc_bind (wpc_any (wpAny_point (show wpc _ _ _ _ _ from ?_)))
  refine wpc_bind (wpc_onRaise (wpc_mono h fun f s' h' => ?_))
  cases f <;> exact wpc_pure h'

theorem codec_forLoop {target it body env} {R : Flow → Shared → Prop} (I : Nat → Shared → Prop)
    (turn : ∀ n s, I n s → wpAny (model prog w) A (pyNext it) (fun r s₁ => match r with
      | none => R .next s₁
      | some v => wpAny (model prog w) A (assign target env v) (fun _ s₂ => wpc (model prog w) A (execs body env) (fun f s₃ => match f with
          | .next | .cont => ∃ m, m < n ∧ I m s₃
          | .brk => R .next s₃
          | .ret v => R (.ret v) s₃) s₂) NoE s₁) NoE s)
    (n : Nat) (h : I n s) (ht : ∀ v, letOwnedTupleGo target it v = pure () := by intro _; rfl) : codec (model prog w) A (.forLoop target it body [] env) R s := by
  refine codec_loop rfl rfl I (fun n s hI => ?_) n h
  show wpc _ _ ((forTurn target it body [] env).onRaise (fun x => do noteFrame x env; theTreesLotGoes x)) _ s
  refine wpc_onRaise ?_
  unfold forTurn
  refine wpc_bind (wpc_standAt (wpc_bind (wpc_onRaise (wpc_mono (wpc_any (turn n s hI)) fun r s₁ h₁ => ?_))))
  cases r with
  | none =>
    refine wpc_pure (.inr ⟨rfl, codec_tree rfl ?_⟩)
    show wpc _ _ (do return Fin.done (← (execs [] env).onRaise (fun x => do noteFrame x env; theTreesLotGoes x))) _ _
    exact wpc_bind (wpc_onRaise (wpc_any (wpAny_execs_nil (show wpc _ _ _ _ _ from wpc_pure h₁))))
  | some v =>
    refine wpc_bind (wpc_of_eq (ht v) ?_)
    refine wpc_bind (wpc_mono (wpc_any h₁) fun _ s₂ h₂ => wpc_bind (wpc_mono h₂ fun f s₃ h₃ => ?_))
    cases f with
    | next => exact wpc_pure (.inl ⟨rfl, h₃⟩)
    | cont => exact wpc_pure (.inl ⟨rfl, h₃⟩)
    | brk => exact wpc_pure h₃
    | ret v => exact wpc_pure h₃

theorem codec_function {a : Addr} {args : List Value} {o : Obj} {fd : FuncData} {body : List Stmt} {binds : List (Str × Value)} {R : Flow → Shared → Prop} (hroom : A.depth < recursionLimit)
    (ho : s.heap.get? a = some o) (hd' : o.data = .func fd) (hbody : fd.body = .stmts body) (hcd : s.heap.CodeRec fd.code fd.qualname) (hlim : s.heap.NoLimit)
    (hbind : bindArgs fd ⟨args, []⟩ = pure binds) (hcell : ∀ x ∈ fd.scope.names, x.2 ≠ .cell) (hloc : ∀ x ∈ binds, fd.scope.names.lookup x.1 = some .local)
    (h : ∀ h₀, h₀.Ns s.heap.objs.size (fun x => binds.reverse.lookup x) → (∀ b o, s.heap.get? b = some o → h₀.get? b = some o) →
      wpc (model prog w) (A.deeper (callEnv fd s.heap.objs.size a)) (execs body (callEnv fd s.heap.objs.size a)) (fun f s' => R (.ret (match f with | .ret v => v | _ => .none)) s')
        { s with heap := h₀, toks := s.toks + binds.length })
    (hco : fd.scope.isCoroutine = false := by rfl) (hgen : fd.scope.isGenerator = false := by rfl) (hk : fd.scope.kind = .function := by rfl) :
    codec (model prog w) A (.call (.ref a) ⟨args, []⟩) R s := by
  refine codec_tree rfl ?_
  show wpc _ A.in1 (callAny (.ref a) ⟨args, []⟩) _ s
  simp only [callAny]
  refine wpc_bind (wpc_any (wpAny_load ho (show wpc _ _ _ _ _ from ?_)))
  obtain ⟨c, oc, vs, tq, hc, hoc, hdc, hq⟩ := hcd
  simp only [hd', callFunction, hco, hgen, hbody, hc]
  refine wpc_bind (m := field (.ref c) 1) (wpc_any (wpAny_field hoc hdc hq (show wpc _ _ _ _ _ from wpc_bind (wpc_pure ?_))))
  refine wpc_bind (wpc_of_eq hbind (wpc_bind (wpc_any ?_)))
  rw [← hc]
  refine wpAny_newFunctionEnv hcell hloc (fun h₀ hns₀ hsb₀ => (show wpc _ _ _ _ _ from ?_)) hk
  refine wpc_bind (wpc_any (wpAny_enterFrame (hlim.fresh _ hsb₀) hroom (show wpc _ _ _ _ _ from wpc_pure ⟨rfl, ?_⟩)))
  exact codec_func (h h₀ hns₀ fun b o e => hsb₀.extBut b o (Nat.ne_of_lt (Heap.lt_size e)) (Heap.get?_push_of_some _ e))
end
end Mine

end

section -- HO
set_option maxRecDepth 100000
namespace Mine
open PySem PySem.W PyProof.Rows PySem.Calls
open PySem.Sem (wp)

theorem caller_clean : Clean (⟨.builtin "claim.caller" {}, none, none, [], none⟩ : Ctx) := ⟨by decide +kernel, fun x hx => nomatch hx⟩

theorem ends_clean {prog : Program} {w : World} {t : Sem Fin} {s : Shared} {R : Result → Shared → Prop} (hreg : s.asleep)
    (h : wpc (model prog w) callerA t (fun fin s' => ∃ f, fin = .done f ∧ (R (.ok f) s' ∧ leftWithCleanup s'.gens = false)) s) :
    ∃ n r s' s'', runN (denote table) prog w n s ⟨t, .builtin "claim.caller" {}, default, []⟩ = .halted (outcomeOf r) s' ∧
      schedN (denote table) prog w n (.single s ⟨t, .builtin "claim.caller" {}, default, []⟩) = .halted (outcomeOf r) s' ∧ s'.forget = s''.forget ∧ R r s'' := by
  have h' : wp (model prog w) (⟨.builtin "claim.caller" {}, none, none, [], none⟩ : Ctx) t (Sem.finPost (model prog w) ⟨.builtin "claim.caller" {}, none, none, [], none⟩ (fun r s' => R r s' ∧ leftWithCleanup s'.gens = false))
      (fun e _ s' => R (.error e) s' ∧ leftWithCleanup s'.gens = false) default s := by
    refine Sem.wp_mono _ _ t (fun fin p' s' h' => ?_) (fun _ _ _ x => x.elim) default s (h _ default caller_in caller_clean)
    obtain ⟨f, rfl, hf⟩ := h'
    exact hf
  obtain ⟨n, r, s₁, s₂, hs, hn, hfo, hR⟩ := wp_halts_full (M := model prog w) (R := R) hreg h'
  exact ⟨n, r, s₂, s₁, hn, hs, hfo, hR⟩

theorem from_clean {c : ClaimW} {tree : List Value → Sem Fin} {w : World} {s : Shared} {free : Addr → Prop} {gens : Prop} {kept : Heap → Prop} (hz : s.asleep) (hgens : s.gens = #[])
    (hspec : ∀ args, c.pre args = true → WData.layableAll args = true →
      ∀ ord : List DictEntry → List DictEntry, (∀ l, (ord l).Perm l) →
      ∃ vs s₁, layAllW c.records (classAt s.heap) w.params ord args s = some (vs, s₁) ∧
        wpc (model c.prog w) callerA (tree vs) (fun fin s' => ∃ f, fin = .done f ∧ (c.Ends s args vs s₁ (.ok f) s' ∧ s'.os = s.os ∧ AllBare s'.gens ∧ kept s'.heap)) s₁) :
    c.CallFrom (fun vs => ⟨tree vs, .builtin "claim.caller" {}, default, []⟩) w free gens kept s := by
  intro args hpre hlay ord hord
  obtain ⟨vs, s₁, hlaid, hcode⟩ := hspec args hpre hlay ord hord
  have hal := layAllW_rest _ _ _ hlaid
  obtain ⟨k, r, s', s'', hrun, hsched, hfo, hcase, hos, hkp⟩ := ends_clean (prog := c.prog) (w := w) (t := tree vs) (s := s₁)
    (R := fun r s' => c.Ends s args vs s₁ r s' ∧ s'.os = s.os ∧ kept s'.heap) (Shared.asleep_of_life hal.2.2.2 hz)
    (wpc_mono hcode fun fin s' ⟨f, e, h1, h2, h3, h4⟩ => ⟨f, e, ⟨h1, h2, h4⟩, leftWithCleanup_false_of_bare h3⟩)
  obtain ⟨eh, _, _, eo, _⟩ := Shared.forget_eq hfo
  have hcase := hcase.congr eh
  have hkp : kept s'.heap := by rw [eh]; exact hkp
  rw [← eo] at hos
  have hlife : s'.heap.life = s.heap.life := (runN_life _ _ _ hrun).trans hal.2.2.2
  refine ⟨vs, s₁, hlaid, k, _, s', hsched, ?_, (fun _ i x hx => by rw [hgens] at hx; simp at hx), hkp, by rw [hlife], Shared.rest_eq hos⟩
  rcases hcase with ⟨v, rfl, d1, d2, d3, d4, d5⟩ | ⟨e, ob, cls, rfl, d1, d2, d3, d4, d5⟩
  · exact .inl ⟨v, rfl, d1, d2, d3, fun b o y _ => d4 b o y, d5⟩
  · exact .inr ⟨e, ob, cls, rfl, d1, d2, d3, d4, fun b o y _ => d5 b o y⟩

/-- the walk that the head asks, in clean contexts -/
abbrev WalkC (q : Program) (loose : List Str) (XP : (Str → Option Value) → Heap → Prop) (YP : World → Heap → Prop) (r : RowW) (d : DefRec) (kwd : List (Str × Expr)) : Prop :=
  ∀ (w : World) (s₀ s₁ : Shared) (mg mb : Str → Option Value), Ground q loose r.records XP w s₀ mg mb s₁.heap → YP w s₁.heap → ∀ (a : Addr) (o : Obj) (pm cd doc dV kV : Value), s₁.heap.get? a = some o →
    o.data = .func { docDef d.name d.params d.body d.scope pm cd doc with defaults := dV, kwdefaults := kV } → s₁.heap.CodeRec cd d.name → Dflts mg s₁.heap d.params kwd dV kV → mg d.name = some (.ref a) → s₁.gens = #[] →
    ∀ (args : List WData) (vals : List Value) (as : List Addr), r.claim.pre args = true → WData.layableAll args = true → ReadsAllW r.records (classAt s₀.heap) s₁.heap vals args as → WellAll w.params s₁.heap vals args → (∀ a ∈ as, (a == sysModules) = false) →
      wpc (model r.prog w) callerA (call (.ref a) vals) (fun v s' => GoodWG r.claim (classAt s₀.heap) (ExcName.means s₀.heap) args s₁ (.ok (.ret v)) s') s₁

theorem holds_clean {r : OpenRow} {q : Program} {loose : List Str} {Xt : Shared → Bool} {XP : (Str → Option Value) → Heap → Prop} {α : Type} {Yf : Shared → α} {Ya : World → α} {YP : World → Heap → Prop} {d : DefRec} {kwd : List (Str × Expr)} {N : Nat}
    (left : LeftO r.prog q loose Xt Yf Ya N) (hY : ∀ w s, Yf s = Ya w → YP w s.heap) (hYk : ∀ w h h', YP w h → (∀ b o, h.get? b = some o → h'.get? b = some o) → YP w h')
    (hX : ∀ s, Xt s = true → XP (s.heap.nsMap mainGlobals) s.heap) (hXk : ∀ mg h h', XP mg h → (∀ b o, h.get? b = some o → h'.get? b = some o) → XP mg h')
    (hdef : defOf q r.name = some (d, kwd)) (hp : r.prog.theDef r.name = some (d.params, d.body, d.scope)) (hk : kwWritten? d.params.kwonlyargs d.params.kw_defaults = some kwd) (hRf : ∀ s, Xt s = true → RecFacts r.records s.heap) (hwr : (!r.writes || r.records.isEmpty) = true)
    (k1 : r.wellSaid = true) (ok : (chainsOk q && opensWell r.prog && (frees r.toRowW && r.within.isEmpty)) = true) (hb : r.prog.bare) (hw : r.toRowW.promised)
    (walk : WalkC q loose XP YP r.toRowW d kwd) : r.Holds := by
  refine ⟨k1, hw, ?_⟩
  obtain ⟨ok, k5⟩ := Bool.and_eq_true_iff.mp ok
  obtain ⟨hch, o1⟩ := Bool.and_eq_true_iff.mp ok
  obtain ⟨k5, k6⟩ := Bool.and_eq_true_iff.mp k5
  obtain ⟨hsame, hu, ha, hap, hm⟩ := frees_parts k5
  refine ⟨⟨hb, o1, by show r.makers.map _ = []; rw [hm]; rfl⟩, hw.witness, fun w => ⟨(left.behind hX hch w).1, fun s' hs' => ?_⟩⟩
  obtain ⟨s₀, hf, hg0, s, hT, hz, hgens, hg, G00, y⟩ := (left.behind (XP := fun mg h => XP mg h ∧ RecFacts r.records h) (fun s hs => ⟨hX s hs, hRf s hs⟩) hch w).2 s' hs'
  have G0 : Ground q loose [] XP w s (s.heap.nsMap mainGlobals) (s.heap.nsMap builtinsNs) s.heap := ⟨G00.T, G00.B, G00.D, G00.TE, G00.TD, G00.W, G00.X.1, G00.cls, G00.has, G00.apart, G00.once, G00.K⟩
  have RF := G00.X.2
  have hpin : ∀ n ∈ (if r.pinned then [r.name] else []), isTheDefsW r.prog s.heap n := fun n hn => by
    obtain rfl : n = r.name := by split at hn <;> simp_all
    exact pinned_of_view hg G0 hdef hp hk
  refine ⟨s₀, hf, hg0, s, hT, hpin, RF.1, RF.2.1, ?_⟩
  have hgens : s.gens = #[] := Array.eq_empty_of_size_eq_zero (beq_iff_eq.mp hgens)
  have G : Ground q loose r.records XP w s _ _ s.heap := RF.ground G0
  refine from_clean (c := r.claim) hz hgens fun args hpre hlay ord hord => ?_
  obtain ⟨⟨vs, s₁⟩, hlaid⟩ := Option.isSome_iff_exists.mp (layAllW_isSome (P := w.params) (ord := ord) G.has args r.args s (pre_splitW hpre).1)
  have keeps := layAllW_keeps _ _ _ hlaid
  have hal := layAllW_rest _ _ _ hlaid
  obtain ⟨as, hrd, hin, hold⟩ := reads_layAllW hord _ _ _ hlaid hlay s₁.heap (fun _ _ e => e)
  have L : Laid r.records w s s₁ args vs as := ⟨⟨ord, hord, hlaid⟩, hrd, hin, hold, keeps, hal.1.trans hgens, hal.2.2.1⟩
  have G₁ := G.keeps hXk keeps
  obtain ⟨a, o, pm, cd, doc, dV, kV, h1, h2, h3, h4, h5⟩ := G₁.fn hdef
  have h := walk w s s₁ _ _ G₁ (hYk _ _ _ (hY w s y) keeps) a o pm cd doc dV kV h2 h3 h4 h5 (defOf_name hdef ▸ h1) L.gens args vs as hpre hlay L.reads L.well (L.low G.low)
  have hi := ident_freeW hu ha hap
  have hwi : r.claim.within = [] := List.isEmpty_iff.mp k6
  refine ⟨vs, s₁, hlaid, ?_⟩
  show wpc _ _ (do match ← nsGet mainNs r.name with
      | some f => do ret (← PySem.call f vs)
      | none => unsupported "claim.caller:no-such-global") _ _
  refine wpc_bind (wpc_any (wpAny_nsGet G₁.T.g (show wpc _ _ _ _ _ from ?_)))
  rw [h1]
  refine wpc_bind (wpc_mono h fun v s' g => wpc_pure ⟨_, rfl, ?_⟩)
  have z := g.laid (c := r.claim) hsame hwi hi L
  exact ⟨z.1, z.2.1, z.2.2, fun q => ⟨namesKept_of hT hg r.keeps keeps g.2.1.old, noTable hwr q⟩⟩
end Mine

end

section -- HC
open PySem PySem.W PyProof.Rows
set_option maxRecDepth 100000
namespace Mine

def loose : List Str := [Str.ofString "_twin_re_1", Str.ofString "_twin_re_2", Str.ofString "_twin_re_3"]
def written : List Addr := [2, 3, 6, 11, 12, 35, 36, 40, 41, 45, 46, 47, 49, 50, 52, 53, 54, 56, 57, 59, 60, 61, 63, 64, 66, 67, 68, 70, 71, 73, 74, 75, 78, 79, 80, 83, 84, 85, 88, 89, 90, 93, 94, 95, 98, 99]
theorem written_ok (P : Params) : written = (hd.heap_39 P).map (·.1) := by kernel_rfl
noncomputable def hook : Hook := kHook hd.heap_39 written written_ok
abbrev row1 : OpenRow := Challenge.rw_pg0015_01.row

theorem lft : LeftO row1.prog hd.view_39 loose (fun s => xlAt hd.view_39 [] s && recOk (RowW.records row1.toRowW) s) (Hook.obs hook) (Hook.val hook) 1696 := fun w => by kernel_rfl

theorem head {d : DefRec} {kwd : List (Str × Expr)} (hdef : defOf hd.view_39 row1.name = some (d, kwd)) (hp : row1.prog.theDef row1.name = some (d.params, d.body, d.scope)) (hk : kwWritten? d.params.kwonlyargs d.params.kw_defaults = some kwd)
    (walk : WalkC hd.view_39 loose (XL hd.view_39 []) (Hook.says hook) row1.toRowW d kwd) : Challenge.rw_pg0015_01.Holds := by
  w_on
  o_law
  refine holds_clean (q := hd.view_39) (loose := loose) (Xt := fun s => xlAt hd.view_39 [] s && recOk (RowW.records row1.toRowW) s) (XP := XL hd.view_39 []) (Yf := Hook.obs hook) (Ya := Hook.val hook) (YP := Hook.says hook) (N := 1696)
    lft (Hook.of hook) (Hook.keeps hook) (fun s e => xl_of s (Bool.and_eq_true_iff.mp e).1) XL.keeps hdef hp hk (fun s e => recFacts_of (Bool.and_eq_true_iff.mp e).2) (by rfl) (by first | assumption | decide +kernel) (by decide +kernel) ⟨rfl, rfl, rfl, rfl, rfl, by decide +kernel⟩ ?hw walk
  case hw => w_witness2
end Mine

end

section -- FA
set_option maxRecDepth 100000
namespace Mine
open PySem PyProof.Rows PySem.Calls PySem.Builtin PySem.Builtin.Re Mine.Rx
open PySem.Sem (wp)

section
variable {M : Model} {A : Around} {E : Value → Shared → Prop} {s : Shared}

theorem drive_hits {R : Sre.M → Prop} {Q : Sre.M → Shared → Prop} (hQ : ∀ m, m.outcome.isSome = true → R m → Q m s) : ∀ (turns : Nat) (m : Sre.M), Hits (4 * turns) m R →
    wpAny M A (reDrive (turns + 1) m) Q E s
  | 0, m, h => by
    unfold reDrive
    have e : Sre.M.runFor reTurnSteps m = m := runFor_done h.1 _
    rw [e]
    have h1 : m.outcome.isSome = true := h.1
    simp only [h1, if_true]
    exact wpAny_pure (hQ m h1 h.2)
  | turns + 1, m, h => by
    unfold reDrive
    by_cases h1 : (Sre.M.runFor reTurnSteps m).outcome.isSome = true
    · simp only [h1, if_true]
      refine wpAny_pure (hQ _ h1 ?_)
      have := h.2
      rw [show 4 * (turns + 1) = 4 + 4 * turns from by omega, runFor_add, runFor_done (m := Sre.M.runFor 4 m) h1] at this
      exact this
    · simp only [h1]
      refine wpAny_bind (wpAny_rule ?_)
      refine drive_hits hQ turns _ ?_
      unfold Hits at h ⊢
      rw [show 4 * (turns + 1) = 4 + 4 * turns from by omega, runFor_add] at h
      exact h

theorem rules_pass {m : Sre.M} {Q : PUnit → Shared → Prop} (h : Q ⟨⟩ s) : ∀ l : List Nat, wpAny M A (forIn l PUnit.unit fun i (_ : PUnit) => if m.seen.has i = true then do rule (Sre.names.getD i ""); pure (ForInStep.yield PUnit.unit) else pure (ForInStep.yield PUnit.unit)) Q E s
  | [] => by rw [List.forIn_nil]; exact wpAny_pure h
  | i :: l => by
    rw [List.forIn_cons]
    refine wpAny_bind ?_
    split
    · exact wpAny_bind (wpAny_rule (wpAny_pure (rules_pass h l)))
    · exact wpAny_pure (rules_pass h l)

theorem toEnd_hits {K : Nat} (hK : K ≤ 2 ^ 62) {r : Option (Nat × Nat)} {m : Sre.M} (h : Hits K m (Found r)) {Q : Option Sre.M → Shared → Prop}
    (hS : ∀ p e m', r = some (p, e) → m'.start = p → m'.handed = e → Q (some m') s) (hN : r = none → Q none s) : wpAny M A (reRunToEnd m) Q E s := by
  unfold reRunToEnd
  have e64 : (2 : Nat) ^ 64 = (2 ^ 64 - 1) + 1 := by decide
  rw [e64]
  refine wpAny_bind (drive_hits (R := Found r) (fun m' h1 h2 => ?_) (2 ^ 64 - 1) m (h.mono (by omega)))
  refine wpAny_bind (rules_pass ?_ _)
  cases r with
  | none =>
    have : m'.outcome = some .failed := h2
    rw [this]
    exact wpAny_pure (hN rfl)
  | some pe =>
    obtain ⟨p, e⟩ := pe
    obtain ⟨h3, h4, h5⟩ : m'.outcome = some .matched ∧ m'.start = p ∧ m'.handed = e := h2
    rw [h3]
    exact wpAny_pure (hS p e m' rfl h4 h5)
end

/-! facts of the table -/
namespace Fa
theorem str_no_call : typeLookup (.type "str") "__call__" = pure none := by rw [typeLookup_type, builtinLookup_eq_fast]; kernel_rfl
theorem bytes_no_call : typeLookup (.type "bytes") "__call__" = pure none := by rw [typeLookup_type, builtinLookup_eq_fast]; kernel_rfl
theorem bytes_buffer : typeLookup (.type "bytes") "__buffer__" = pure (some (.builtin "bytes.__buffer__")) := by rw [typeLookup_type, builtinLookup_eq_fast]; kernel_rfl
theorem bytes_release : typeLookup (.type "bytes") "__release_buffer__" = pure none := by rw [typeLookup_type, builtinLookup_eq_fast]; kernel_rfl
theorem bytes_sub : isSubtype (.type "bytes") (.type "bytes") = pure true := by rw [isSubtype_type]; kernel_rfl
theorem slot_sub : Slot "re.Pattern" "sub" "re.Pattern.sub" :=
  .of (owner := "re.Pattern") (n := "sub") (by rw [typeLookup_type, builtinLookup_eq_fast]; kernel_rfl) (by decide +kernel) (by decide +kernel) (by decide +kernel)
    (by first | exact .inl (by decide +kernel) | exact .inr (by decide +kernel)) (by rw [isSubtype_type]; kernel_rfl)
theorem type_sub : typeOf (.builtin "re.Pattern.sub") = pure (.type "method_descriptor") := by show builtinType _ = _; rw [builtinType_eq_fast]; kernel_rfl
theorem entry_sub : entryFor table "re.Pattern.sub" = some Builtin.«re.Pattern.sub» := by first | exact entryFor_of_fast (by kernel_rfl) | exact entryFor_of_tree (by kernel_rfl)
theorem entry_loop : entryFor table "re.Pattern.sub.loop" = some Builtin.«re.Pattern.sub.loop» := by first | exact entryFor_of_fast (by kernel_rfl) | exact entryFor_of_tree (by kernel_rfl)
theorem plain_loop : plainId "re.Pattern.sub.loop" = true := by decide +kernel
theorem args_sub (a b c : Value) : argsOk "re.Pattern.sub" ⟨[a, b, c], []⟩ := by unfold argsOk; kernel_rfl
theorem plain_pattern : PlainAttrs "re.Pattern" := ⟨⟨"object.__getattribute__", by rw [typeLookup_type, builtinLookup_eq_fast]; kernel_rfl, by decide +kernel⟩, by rw [typeLookup_type, builtinLookup_eq_fast]; kernel_rfl⟩
end Fa
end Mine

end

section -- RS
set_option maxRecDepth 100000
namespace Mine
open PySem PyProof.Rows PySem.Calls PySem.Builtin PySem.Builtin.Re Mine.Rx
open PySem.Sem (wp)

/-- the object of a pattern without groups: kind 0 of str, 1 of bytes -/
structure IsPat (h : Heap) (pat ct : Addr) (kind : Nat) (code : Array Nat) : Prop where
  obj : ∃ o src flags, h.get? pat = some o ∧ o.cls = .type "re.Pattern" ∧ o.dict = none ∧ o.data = .fields #[src, flags, .int 0 0, .none, .none, .ref ct, .int kind 0]
  codes : ∃ o n, h.get? ct = some o ∧ o.data = .seq (code.map fun (c : Nat) => Value.int (c : Int) 0) n
theorem IsPat.at {h h' : Heap} {pat ct : Addr} {kind : Nat} {code : Array Nat} (p : IsPat h pat ct kind code) (k : ∀ b o, b = pat ∨ b = ct → h.get? b = some o → h'.get? b = some o) : IsPat h' pat ct kind code :=
  let ⟨⟨o, a, b, e, r⟩, ⟨o', n, e', r'⟩⟩ := p
  ⟨⟨o, a, b, k _ _ (.inl rfl) e, r⟩, ⟨o', n, k _ _ (.inr rfl) e', r'⟩⟩
theorem IsPat.lt {h : Heap} {pat ct : Addr} {kind : Nat} {code : Array Nat} (p : IsPat h pat ct kind code) : pat < h.objs.size ∧ ct < h.objs.size := by
  obtain ⟨⟨o, a, b, e, r⟩, ⟨o', n, e', r'⟩⟩ := p
  exact ⟨Heap.lt_size e, Heap.lt_size e'⟩
theorem raw_codes (code : Array Nat) : ((code.map fun (c : Nat) => Value.int (c : Int) 0).map reRawOf).map (·.toNat) = code := by
  simp [Array.map_map, reRawOf, Function.comp_def]

section
variable {M : Model} {A : Around} {E : Value → Shared → Prop} {s : Shared}

theorem target_str {pat ct : Addr} {code : Array Nat} {x : Str} {t : Tok} {Q : ReTarget → Shared → Prop} (p : IsPat s.heap pat ct 0 code)
    (h : Q { pattern := .ref pat, string := .str x t, code, text := x.cps, kind := 0, groups := 0, pos := 0, lim := x.cps.size } s) :
    wpAny M A (reWholeTarget (.ref pat) (.str x t)) Q E s := by
  obtain ⟨⟨o, a, b, e, hc, hd, hf⟩, ⟨o', n, e', hs⟩⟩ := p
  unfold reWholeTarget
  refine wpAny_bind (wpAny_fieldsOf e hf ?_)
  refine wpAny_bind (m := reTextOf (.str x t)) (wpAny_of_eq (a := (x.cps, 0)) rfl ?_)
  show wpAny M A (reNoCollectionInside (.str x t) 0 >>= _) Q E s
  refine wpAny_bind (wpAny_of_eq (a := ()) rfl ?_)
  show wpAny M A (reRawItems (.ref ct) >>= _) Q E s
  refine wpAny_bind ?_
  unfold reRawItems
  refine wpAny_bind (wpAny_seqItems e' hs (wpAny_pure (wpAny_pure ?_)))
  dsimp only [Option.getD_some]
  rw [raw_codes]
  exact h

theorem own_bytes {b : Array UInt8} {t : Tok} {Q : Bool → Shared → Prop} (h : Q true s) : wpAny M A (Bytes.slotIsOwn (.bytes b t) "__buffer__") Q E s := by
  have hT := PySem.W.typeIs_bytes s b t
  unfold Bytes.slotIsOwn
  refine wpAny_bind (wpAny_specialOf hT Fa.bytes_buffer ?_)
  show wpAny M A (if (!("bytes.__buffer__".endsWith ("." ++ "__buffer__"))) = true then _ else _) Q E s
  rw [if_neg (by decide +kernel)]
  show wpAny M A (isInstance (.bytes b t) (.type ("bytes.__buffer__".dropRight ("__buffer__".length + 1)))) Q E s
  rw [show "bytes.__buffer__".dropRight ("__buffer__".length + 1) = "bytes" from by decide +kernel]
  exact wpAny_isInstance hT Fa.bytes_sub h
theorem release_bytes {b : Array UInt8} {t : Tok} {Q : Bool → Shared → Prop} (h : Q false s) : wpAny M A (Bytes.ownRelease (.bytes b t)) Q E s := by
  have hT := PySem.W.typeIs_bytes s b t
  unfold Bytes.ownRelease Bytes.slotIsOwn
  exact wpAny_bind (wpAny_bind (wpAny_specialOf hT Fa.bytes_release (wpAny_pure (wpAny_pure h))))
theorem buffer_bytes {id : String} {b : Array UInt8} {t : Tok} {full : Bool} {Q : Option (Array UInt8) → Shared → Prop} (h : Q (some b) s) : wpAny M A (Bytes.buffer? id (.bytes b t) full) Q E s := by
  have hT := PySem.W.typeIs_bytes s b t
  unfold Bytes.buffer?
  refine wpAny_bind (wpAny_specialOf hT Fa.bytes_buffer ?_)
  show wpAny M A (Bytes.slotIsOwn (.bytes b t) "__buffer__" >>= _) Q E s
  refine wpAny_bind (own_bytes ?_)
  show wpAny M A (specialOf (.bytes b t) "__buffer__" >>= _) Q E s
  refine wpAny_bind (wpAny_specialOf hT Fa.bytes_buffer ?_)
  show wpAny M A (Bytes.ownRelease (.bytes b t) >>= _) Q E s
  refine wpAny_bind (release_bytes ?_)
  exact wpAny_bind (wpAny_of_eq (a := b) rfl (wpAny_pure h))
theorem bufferQuiet_bytes {id : String} {b : Array UInt8} {t : Tok} {Q : Option (Array UInt8) → Shared → Prop} (h : Q (some b) s) : wpAny M A (Bytes.bufferQuiet? id (.bytes b t)) Q E s := by
  unfold Bytes.bufferQuiet?
  exact wpAny_bind (wpAny_attempt (buffer_bytes (wpAny_pure h)))

theorem target_bytes {pat ct : Addr} {code : Array Nat} {x : Array UInt8} {t : Tok} {Q : ReTarget → Shared → Prop} (p : IsPat s.heap pat ct 1 code)
    (h : Q { pattern := .ref pat, string := .bytes x t, code, text := x.map (·.toNat), kind := 1, groups := 0, pos := 0, lim := (x.map (·.toNat)).size } s) :
    wpAny M A (reWholeTarget (.ref pat) (.bytes x t)) Q E s := by
  obtain ⟨⟨o, a, b, e, hc, hd, hf⟩, ⟨o', n, e', hs⟩⟩ := p
  have hT := PySem.W.typeIs_bytes s x t
  unfold reWholeTarget
  refine wpAny_bind (wpAny_fieldsOf e hf ?_)
  refine wpAny_bind (m := reTextOf (.bytes x t)) ?_
  unfold reTextOf
  refine wpAny_bind (wpAny_of_eq (a := none) rfl ?_)
  refine wpAny_bind (bufferQuiet_bytes (wpAny_pure ?_))
  show wpAny M A (reNoCollectionInside (.bytes x t) 1 >>= _) Q E s
  refine wpAny_bind ?_
  unfold reNoCollectionInside
  refine wpAny_bind (wpAny_isInstance hT Fa.bytes_sub (wpAny_pure ?_))
  show wpAny M A (reRawItems (.ref ct) >>= _) Q E s
  refine wpAny_bind ?_
  unfold reRawItems
  refine wpAny_bind (wpAny_seqItems e' hs (wpAny_pure (wpAny_pure ?_)))
  dsimp only [Option.getD_some]
  rw [raw_codes]
  exact h
end
end Mine

end

section -- RL
set_option maxRecDepth 100000
namespace Mine
open PySem PyProof.Rows PySem.Calls PySem.Builtin PySem.Builtin.Re Mine.Rx
open PySem.Builtin.Str (glued tooLong)
open PySem.Sem (wp)

/-- all that stood but the object a stands -/
def KeepBut (a : Addr) (h h' : Heap) : Prop := ∀ b o, b ≠ a → h.get? b = some o → h'.get? b = some o
theorem KeepBut.refl {a : Addr} {h : Heap} : KeepBut a h h := fun _ _ _ e => e
theorem KeepBut.trans {a : Addr} {h h' h'' : Heap} (x : KeepBut a h h') (y : KeepBut a h' h'') : KeepBut a h h'' := fun b o n e => y b o n (x b o n e)

section
variable {M : Model} {A : Around} {E : Value → Shared → Prop} {s : Shared}
theorem push_plain {a : Addr} {items : Array Value} {v : Value} {Q : Unit → Shared → Prop} (hl : s.heap.PlainList a items) (hz : items.size ≤ sizeLine)
    (hQ : ∀ h', h'.PlainList a (items.push v) → KeepBut a s.heap h' → Q () { s with heap := h' }) : wpAny M A (updateSeq a (·.push v)) Q E s := by
  obtain ⟨n, e⟩ := hl
  refine wpAny_updateSeq e rfl (hQ _ ⟨_, Heap.get?_update_self _ e rfl⟩ fun b o hb e' => ?_) hz (by simp; omega)
  rw [Heap.get?_update_ne _ _ _ _ hb]; exact e'
end

def lens (ps : List (Str × Tok)) : Nat := (ps.map fun p => p.1.length).sum
def textOf (ps : List (Str × Tok)) : List Nat := ps.flatMap fun p => p.1.cps.toList
theorem lens_snoc (ps : List (Str × Tok)) (p : Str × Tok) : lens (ps ++ [p]) = lens ps + p.1.length := by simp [lens]
theorem textOf_snoc (ps : List (Str × Tok)) (p : Str × Tok) : textOf (ps ++ [p]) = textOf ps ++ p.1.cps.toList := by simp [textOf]
theorem strValues_snoc (ps : List (Str × Tok)) (p : Str × Tok) : (strValues (ps ++ [p])).toArray = (strValues ps).toArray.push (.str p.1 p.2) := by simp [strValues]

theorem glued_nil (parts : List Str) (e : Str) (he : e.cps = #[]) : (glued e parts).cps.toList = parts.flatMap fun p => p.cps.toList := by
  have gen : ∀ (rest : List Str) (a : Array Nat), (rest.foldl (fun acc p => acc ++ e.cps ++ p.cps) a).toList = a.toList ++ rest.flatMap fun p => p.cps.toList := by
    intro rest
    induction rest with
    | nil => intro a; simp
    | cons y r ih => intro a; rw [List.foldl_cons, ih, he]; simp
  cases parts with
  | nil => rfl
  | cons x r =>
    show (r.foldl (fun acc p => acc ++ e.cps ++ p.cps) x.cps).toList = _
    rw [gen]; simp

section
variable {prog : Program} {w : World} {A : Around} {E : Value → Shared → Prop}

theorem join_pieces {s : Shared} {pl : Addr} {ps : List (Str × Tok)} {e : Str} {t : Tok} {Q : Value → Shared → Prop} (he : e.cps = #[]) (hl : s.heap.IsList pl (strValues ps).toArray) (hz : lens ps ≤ 16000000)
    (hQ : ∀ y t' k, y.cps.toList = textOf ps → Q (.str y t') { s with toks := k }) : wpAny (model prog w) A (call (.builtin "str.join") [.str e t, .ref pl]) Q E s := by
  have hok : JoinOk e (ps.map (·.1)) = true := by
    have e0 : e.length = 0 := by simp [Str.length, he]
    unfold JoinOk
    rw [StrLaws.joinTotal, e0, Nat.mul_zero, Nat.add_zero, List.map_map]
    unfold tooLong sizeLine
    have : lens ps = (ps.map ((fun x => x.length) ∘ fun x => x.1)).sum := rfl
    have e2 : (2 : Nat) ^ 24 = 16777216 := by decide
    rw [← this, e2]
    simp; omega
  refine SC.join hl rfl hok fun t' k => hQ _ t' k ?_
  show (glued e (ps.map (·.1))).cps.toList = _
  rw [glued_nil _ _ he]
  simp [textOf, List.flatMap_map]

theorem loop_str {R : Result → Shared → Prop} {pat ct pl : Addr} {code : Array Nat} {x repl : Str} {t u : Tok} {next : Nat → Option (Nat × Nat)} {K : Nat} (hK : K ≤ 2 ^ 62)
    (hs : ∀ d must, d ≤ x.cps.size → Hits K (Sre.forSearch code x.cps 0 d x.cps.size must) (Found (next d))) (on : Onward x.cps next) (hx : x.cps.size ≤ 1000000) (hr : repl.cps.size = 2) (hpp : pl ≠ pat) (hpc : pl ≠ ct) :
    ∀ (f d : Nat) (n : Int) (s : Shared) (ps : List (Str × Tok)), x.cps.size < d + f → d ≤ x.cps.size → IsPat s.heap pat ct 0 code → s.heap.PlainList pl (strValues ps).toArray → lens ps ≤ 3 * d → ps.length ≤ 2 * d →
      (∀ h' tk t' y, y.cps.toList = textOf ps ++ glue (subAll x.cps next repl.cps f d) → KeepBut pl s.heap h' → R (.ok (.ret (.str y t'))) { s with heap := h', toks := tk }) →
      codeAny (model prog w) A (.builtin "re.Pattern.sub.loop" ⟨[.ref pat, .str x t, .str repl u, .int 0 0, .int 0 0, .int n 0, .int d 0, .int d 0, .bool false, .ref pl, .bool false], []⟩) R s
  | 0, d, n, s, ps, hf, hd, _, _, _, _, _ => by omega
  | f + 1, d, n, s, ps, hf, hd, hp, hl, hlen, hcnt, hR => by
    have e2 : sizeLine = 16777216 := by decide
    refine codeAny_builtin Fa.entry_loop ?_
    rw [Around.under_plainId Fa.plain_loop _]
    show wpAny _ A.in1 (reWholeTarget (.ref pat) (.str x t) >>= _) _ _ s
    refine wpAny_bind (target_str hp ?_)
    refine wpAny_bind (m := reLiteralCannotBeTurned (.str repl u)) (wpAny_of_eq (a := ()) rfl ?_)
    show wpAny _ A.in1 (reRunToEnd (Sre.forSearch code x.cps 0 ((d : Int).toNat) x.cps.size false) >>= _) _ _ s
    rw [Int.toNat_natCast]
    have hsz : (strValues ps).toArray.size = ps.length := by simp [strValues]
    refine wpAny_bind (toEnd_hits hK (hs d false hd) (fun p e m' hn h1 h2 => ?_) fun hn => ?_)
    · -- a match
      obtain ⟨o1, o2, o3⟩ := on.some d p e hd hn
      have esub : subAll x.cps next repl.cps (f + 1) d = (if d < p then [x.cps.extract d p] else []) ++ (repl.cps :: subAll x.cps next repl.cps f e) := by
        rw [subAll, hn]
      have again : ∀ (s' : Shared) (ps' : List (Str × Tok)) (Rx : Prop), (∃ h' tk, s' = { s with heap := h', toks := tk } ∧ KeepBut pl s.heap h' ∧ h'.PlainList pl (strValues ps').toArray) →
          lens ps' + 2 ≤ 3 * e → ps'.length + 1 ≤ 2 * e → textOf ps' = textOf ps ++ glue (if d < p then [x.cps.extract d p] else []) →
          wpAny (model prog w) A.in1 (do
            updateSeq pl (·.push (.str repl u))
            again (.builtin "re.Pattern.sub.loop" ⟨[.ref pat, .str x t, .str repl u, rawInt 0, rawInt 0, rawInt (n + 1), rawInt m'.handed, rawInt m'.handed, .bool (m'.handed == p), .ref pl, .bool false], []⟩))
            (fun fin s' => match fin with | .done f => R (.ok f) s' | .again c' => c'.quiet = true ∧ codeAny (model prog w) A c' R s') (fun e s' => R (.error e) s') s' := by
        rintro s' ps' _ ⟨h', tk, rfl, hk, hl'⟩ b1 b2 b3
        refine wpAny_bind (push_plain hl' (by simp [strValues]; omega) fun h₂ hl₂ hk₂ => wpAny_pure ⟨plainId_quiet Fa.plain_loop _, ?_⟩)
        rw [h2, show (e == p) = false from beq_eq_false_iff_ne.mpr (by omega)]
        rw [← strValues_snoc ps' (repl, u)] at hl₂
        refine loop_str hK hs on hx hr hpp hpc f e (n + 1) _ (ps' ++ [(repl, u)]) (by omega) o3 (hp.at fun b o hb q => hk₂ b o ?_ (hk b o ?_ q)) hl₂ ?_ ?_ fun h₃ tk₃ t₃ y hy hk₃ => ?_
        · rcases hb with rfl | rfl <;> exact Ne.symm (by assumption)
        · rcases hb with rfl | rfl <;> exact Ne.symm (by assumption)
        · rw [lens_snoc]; show lens ps' + repl.cps.size ≤ _; omega
        · simp; omega
        · refine hR h₃ tk₃ t₃ y ?_ (hk.trans (hk₂.trans hk₃))
          rw [hy, textOf_snoc, b3, esub, glue_append, List.append_assoc, List.append_assoc]; rfl
      show wpAny _ A.in1 (if (d : Int).toNat < m'.start then _ else _) _ _ s
      rw [Int.toNat_natCast, h1]
      by_cases hdp : d < p
      · rw [if_pos hdp]
        show wpAny _ A.in1 (reSlice x.cps 0 d p >>= _) _ _ s
        show wpAny _ A.in1 (mkStr ⟨x.cps.extract d p⟩ >>= _) _ _ s
        refine wpAny_bind (wpAny_mkStr ?_ (by show (x.cps.extract d p).size ≤ _; simp; omega))
        refine wpAny_bind (push_plain hl (by rw [hsz]; omega) fun h₁ hl₁ hk₁ => ?_)
        rw [← strValues_snoc ps (⟨x.cps.extract d p⟩, s.toks)] at hl₁
        refine again _ (ps ++ [(⟨x.cps.extract d p⟩, s.toks)]) True ⟨h₁, _, rfl, hk₁, hl₁⟩ ?_ ?_ ?_
        · rw [lens_snoc]; show lens ps + (x.cps.extract d p).size + 2 ≤ _; simp; omega
        · simp; omega
        · rw [textOf_snoc, if_pos hdp]; simp [glue]
      · rw [if_neg hdp]
        refine again _ ps True ⟨s.heap, s.toks, rfl, .refl, hl⟩ (by omega) (by omega) ?_
        rw [if_neg hdp]; simp [glue]
    · -- no match more
      have esub : subAll x.cps next repl.cps (f + 1) d = if d < x.cps.size then [x.cps.extract d x.cps.size] else [] := by
        rw [subAll, hn]
      have fin : ∀ (s' : Shared) (ps' : List (Str × Tok)), (∃ h' tk, s' = { s with heap := h', toks := tk } ∧ KeepBut pl s.heap h' ∧ h'.PlainList pl (strValues ps').toArray) →
          lens ps' ≤ 4000000 → textOf ps' = textOf ps ++ glue (subAll x.cps next repl.cps (f + 1) d) →
          wpAny (model prog w) A.in1 (do
            let joiner ← reSlice x.cps 0 0 0
            let text ← if ((← seqItems? (.ref pl)).getD #[]).isEmpty then pure joiner else call (.builtin "str.join") [joiner, .ref pl]
            ret text)
            (fun fin s' => match fin with | .done f => R (.ok f) s' | .again c' => c'.quiet = true ∧ codeAny (model prog w) A c' R s') (fun e s' => R (.error e) s') s' := by
        rintro s' ps' ⟨h', tk, rfl, hk, hl'⟩ b1 b3
        have z : x.cps.extract 0 0 = #[] := by simp
        refine wpAny_bind (m := reSlice x.cps 0 0 0) ?_
        show wpAny _ A.in1 (mkStr ⟨x.cps.extract 0 0⟩) _ _ _
        rw [z]
        refine wpAny_mkStr ?_ (by show (#[] : Array Nat).size ≤ _; simp)
        obtain ⟨n', e'⟩ := id hl'
        refine wpAny_bind (wpAny_seqItems e' rfl ?_)
        dsimp only [Option.getD_some]
        cases ps' with
        | nil =>
          refine wpAny_bind (wpAny_pure (wpAny_pure ?_))
          exact hR h' _ _ _ (by rw [← b3]; rfl) hk
        | cons q r =>
          show wpAny _ A.in1 (call (.builtin "str.join") [.str ⟨#[]⟩ tk, .ref pl] >>= _) _ _ _
          refine wpAny_bind (join_pieces (ps := q :: r) rfl hl'.isList (by omega) fun y t' k hy => wpAny_pure ?_)
          exact hR h' _ _ y (by rw [hy, b3]) hk
      show wpAny _ A.in1 (if (d : Int).toNat < x.cps.size then _ else _) _ _ s
      rw [Int.toNat_natCast]
      by_cases hdp : d < x.cps.size
      · rw [if_pos hdp]
        show wpAny _ A.in1 (reSlice x.cps 0 d x.cps.size >>= _) _ _ s
        show wpAny _ A.in1 (mkStr ⟨x.cps.extract d x.cps.size⟩ >>= _) _ _ s
        refine wpAny_bind (wpAny_mkStr ?_ (by show (x.cps.extract d x.cps.size).size ≤ _; simp; omega))
        refine wpAny_bind (push_plain hl (by rw [hsz]; omega) fun h₁ hl₁ hk₁ => ?_)
        rw [← strValues_snoc ps (⟨x.cps.extract d x.cps.size⟩, s.toks)] at hl₁
        refine fin _ (ps ++ [(⟨x.cps.extract d x.cps.size⟩, s.toks)]) ⟨h₁, _, rfl, hk₁, hl₁⟩ ?_ ?_
        · rw [lens_snoc]; show lens ps + (x.cps.extract d x.cps.size).size ≤ _; simp; omega
        · rw [textOf_snoc, esub, if_pos hdp]; simp [glue]
      · rw [if_neg hdp]
        refine fin _ ps ⟨s.heap, s.toks, rfl, .refl, hl⟩ (by omega) ?_
        rw [esub, if_neg hdp]; simp [glue]
end
end Mine

end

section -- RT
set_option maxRecDepth 100000
namespace Mine
open PySem PyProof.Rows PySem.Calls PySem.Builtin PySem.Builtin.Re Mine.Rx
open PySem.Sem (wp)

/-- all that stood stands -/
def Keep (h h' : Heap) : Prop := ∀ b o, h.get? b = some o → h'.get? b = some o
theorem Keep.refl {h : Heap} : Keep h h := fun _ _ e => e
theorem Keep.trans {h h' h'' : Heap} (x : Keep h h') (y : Keep h' h'') : Keep h h'' := fun b o e => y b o (x b o e)
theorem Keep.push {h : Heap} (o : Obj) : Keep h (h.push o) := fun _ _ e => Heap.get?_push_of_some _ e

theorem named_two (a b : Value) : reNamed "re.Pattern.sub" "sub" ["repl", "string", "count"] 2 [a, b] [] = pure [some a, some b, none] := by kernel_rfl

section
variable {prog : Program} {w : World} {A : Around} {E : Value → Shared → Prop} {s : Shared}

theorem sub_str {pat ct : Addr} {code : Array Nat} {x repl : Str} {t u : Tok} {next : Nat → Option (Nat × Nat)} {K : Nat} {Q : Value → Shared → Prop} (hp : IsPat s.heap pat ct 0 code) (hK : K ≤ 2 ^ 62)
    (hs : ∀ d must, d ≤ x.cps.size → Hits K (Sre.forSearch code x.cps 0 d x.cps.size must) (Found (next d))) (on : Onward x.cps next) (hx : x.cps.size ≤ 1000000) (hr : repl.cps.size = 2) (hlit : repl.cps.contains 92 = false)
    (hQ : ∀ h' tk t' y, y.cps.toList = glue (subAll x.cps next repl.cps (x.cps.size + 1) 0) → Keep s.heap h' → Q (.str y t') { s with heap := h', toks := tk }) :
    wpAny (model prog w) A (call (.builtin "re.Pattern.sub") [.ref pat, .str repl u, .str x t]) Q E s := by
  obtain ⟨o, a, b, e, hc, hd, hf⟩ := hp.obj
  have hT : s.TypeIs (.ref pat) "re.Pattern" := ⟨o, e, hc⟩
  have hTr : s.TypeIs (.str repl u) "str" := typeIs_str _ _ _
  refine wpAny_call (codeAny_call_builtin Fa.slot_sub.plain Fa.entry_sub (Fa.slot_sub.check _ _ _ _ _ _ _ _ hT (Fa.args_sub _ _ _) ?_))
  unfold Builtin.«re.Pattern.sub» reSubstitute
  refine wpAny_bind (wpAny_of_eq (named_two _ _) ?_)
  show wpAny _ A.in1 ((pure (0 : Int) : Sem Int) >>= _) _ _ s
  refine wpAny_bind (wpAny_pure ?_)
  refine wpAny_bind (wpAny_specialOf hTr Fa.str_no_call ?_)
  refine wpAny_bind (wpAny_of_eq (a := some repl) rfl ?_)
  refine wpAny_bind (wpAny_pure ?_)
  rw [hlit]
  refine wpAny_bind (wpAny_pure ?_)
  refine wpAny_bind (wpAny_holding (target_str hp ?_))
  show wpAny _ A.in1 (newList [] >>= _) _ _ s
  refine wpAny_bind (wpAny_newObj_type ?_ (by size_fits))
  refine wpAny_pure ⟨plainId_quiet Fa.plain_loop _, ?_⟩
  have hlt := hp.lt
  refine loop_str hK hs on hx hr (Nat.ne_of_gt hlt.1) (Nat.ne_of_gt hlt.2) (x.cps.size + 1) 0 0 _ [] (by omega) (by omega) (hp.at fun b o _ q => Heap.get?_push_of_some _ q) ⟨0, Heap.get?_push_size _ rfl⟩ (by simp [lens]) (by simp) fun h' tk t' y hy hk => ?_
  exact hQ h' tk t' y (by simpa [textOf] using hy) fun b o q => hk b o (Nat.ne_of_lt (Heap.lt_size q)) (Heap.get?_push_of_some _ q)

/-- what _fix_eols and the inner sub of quotedata give -/
theorem sub_ends {pat ct : Addr} {x repl : Str} {t u : Tok} {Q : Value → Shared → Prop} (hp : IsPat s.heap pat ct 0 c3) (hx : x.cps.size ≤ 1000000) (hr : repl.cps = #[13, 10])
    (hQ : ∀ h' tk t' y, y.cps.toList = Pl.fixEols x.cps.toList → Keep s.heap h' → Q (.str y t') { s with heap := h', toks := tk }) :
    wpAny (model prog w) A (call (.builtin "re.Pattern.sub") [.ref pat, .str repl u, .str x t]) Q E s := by
  refine sub_str (K := 25) (next := next3 x.cps) hp (by decide) (fun d must hd => search3 hd) onward3 hx (by rw [hr]; rfl) (by rw [hr]; decide +kernel) fun h' tk t' y hy hk => hQ h' tk t' y ?_ hk
  rw [hy, hr, ends_all]
theorem sub_dots {pat ct : Addr} {x repl : Str} {t u : Tok} {Q : Value → Shared → Prop} (hp : IsPat s.heap pat ct 0 c1) (hx : x.cps.size ≤ 1000000) (hr : repl.cps = #[46, 46])
    (hQ : ∀ h' tk t' y, y.cps.toList = Pl.quote true x.cps.toList → Keep s.heap h' → Q (.str y t') { s with heap := h', toks := tk }) :
    wpAny (model prog w) A (call (.builtin "re.Pattern.sub") [.ref pat, .str repl u, .str x t]) Q E s := by
  refine sub_str (K := 5 * (x.cps.size + 1) + 5) (next := next1 x.cps) hp (by omega) (fun d must hd => (search1 hd).mono (by omega)) onward1 hx (by rw [hr]; rfl) (by rw [hr]; decide +kernel) fun h' tk t' y hy hk => hQ h' tk t' y ?_ hk
  rw [hy, hr, dots_all]
end
end Mine

end

section -- BJ
set_option maxRecDepth 100000
namespace Mine
open PySem PyProof.Rows PySem.Calls PySem.Builtin PySem.Builtin.Re Mine.Rx
open PySem.Sem (wp)
namespace Fa
theorem slot_bjoin : Slot "bytes" "join" "bytes.join" :=
  .of (owner := "bytes") (n := "join") (by rw [typeLookup_type, builtinLookup_eq_fast]; kernel_rfl) (by decide +kernel) (by decide +kernel) (by decide +kernel)
    (by first | exact .inl (by decide +kernel) | exact .inr (by decide +kernel)) (by rw [isSubtype_type]; kernel_rfl)
theorem entry_bjoin : entryFor table "bytes.join" = some Builtin.«bytes.join» := by first | exact entryFor_of_fast (by kernel_rfl) | exact entryFor_of_tree (by kernel_rfl)
theorem args_bjoin (a b : Value) : argsOk "bytes.join" ⟨[a, b], []⟩ := by unfold argsOk; kernel_rfl
end Fa

def bvals (l : List (Array UInt8 × Tok)) : List Value := l.map fun p => .bytes p.1 p.2
def blens (ps : List (Array UInt8 × Tok)) : Nat := (ps.map fun p => p.1.size).sum
def bytesOf (ps : List (Array UInt8 × Tok)) : List UInt8 := ps.flatMap fun p => p.1.toList

section
variable {M : Model} {A : Around} {E : Value → Shared → Prop} {s : Shared}
theorem takeQuiet_bytes {id : String} {b : Array UInt8} {t : Tok} {Q : Option (Array UInt8 × Option Value) → Shared → Prop} (h : Q (some (b, none)) s) : wpAny M A (Bytes.takeBufferQuiet? id (.bytes b t) 0) Q E s := by
  have hT := PySem.W.typeIs_bytes s b t
  unfold Bytes.takeBufferQuiet?
  refine wpAny_bind (wpAny_attempt ?_)
  unfold Bytes.takeBuffer?
  refine wpAny_bind (wpAny_specialOf hT Fa.bytes_buffer ?_)
  show wpAny M A (Bytes.slotIsOwn (.bytes b t) "__buffer__" >>= _) _ _ s
  refine wpAny_bind (own_bytes ?_)
  show wpAny M A (specialOf (.bytes b t) "__buffer__" >>= _) _ _ s
  refine wpAny_bind (wpAny_specialOf hT Fa.bytes_buffer ?_)
  show wpAny M A (Bytes.buffer? id (.bytes b t) _ >>= _) _ _ s
  exact wpAny_bind (buffer_bytes (wpAny_pure (wpAny_pure h)))
theorem letGo_all {Q : Unit → Shared → Prop} {keep : List Value} (h : Q () s) : ∀ ps : List (Array UInt8 × Tok), wpAny M A (Bytes.joinLetGo (ps.map fun p => (Value.bytes p.1 p.2, none)) keep) Q E s
  | [] => wpAny_pure h
  | p :: ps => by
    show wpAny M A (letGo _ _ >>= _) Q E s
    exact wpAny_bind (wpAny_letGo (letGo_all h ps))

theorem joined_nil (parts : List (Array UInt8)) : (Bytes.joined #[] parts).toList = parts.flatMap fun p => p.toList := by
  have gen : ∀ (l : List (Array UInt8 × Nat)) (a : Array UInt8), (l.foldl (fun out (p : Array UInt8 × Nat) => (if p.2 > 0 then out ++ #[] else out) ++ p.1) a).toList = a.toList ++ l.flatMap fun p => p.1.toList := by
    intro l
    induction l with
    | nil => intro a; simp
    | cons y r ih => intro a; rw [List.foldl_cons, ih]; split <;> simp
  unfold Bytes.joined
  have := gen parts.zipIdx #[]
  rw [show (fun (out : Array UInt8) (x : Array UInt8 × Nat) => match x with | (p, i) => (if i > 0 then out ++ #[] else out) ++ p) = fun out p => (if p.2 > 0 then out ++ #[] else out) ++ p.1 from by funext out x; rfl, this]
  have e : parts.zipIdx.flatMap (fun p => p.1.toList) = (parts.zipIdx.map Prod.fst).flatMap fun p => p.toList := by rw [List.flatMap_map]
  rw [e, List.zipIdx_map_fst]; rfl
end
theorem range_walk {M : Model} {A : Around} {E : Value → Shared → Prop} {s : Shared} {β : Type} {f : Nat → β → Sem (ForInStep β)} {Q : β → Shared → Prop} (I : Nat → β → Prop) (n : Nat) (b0 : β) (h0 : I 0 b0)
    (turn : ∀ i b, i < n → I i b → wpAny M A (f i b) (fun r s' => ∃ b', r = .yield b' ∧ I (i + 1) b' ∧ s' = s) E s) (fin : ∀ b, I n b → Q b s) : wpAny M A (forIn [0:n] b0 f) Q E s := by
  rw [Std.Legacy.Range.forIn_eq_forIn_range']
  have gen : ∀ (k i : Nat) (b : β), i + k = n → I i b → wpAny M A (forIn (List.range' i k) b f) Q E s := by
    intro k
    induction k with
    | zero => intro i b hi hb; rw [List.range'_zero, List.forIn_nil]; exact wpAny_pure (fin b (by rw [show n = i by omega]; exact hb))
    | succ k ih =>
      intro i b hi hb
      rw [List.range'_succ, List.forIn_cons]
      refine wpAny_bind (wpAny_mono (turn i b (by omega) hb) (fun r s' hr => ?_) fun _ _ x => x)
      obtain ⟨b', rfl, hb', rfl⟩ := hr
      exact ih (i + 1) b' (by omega) hb'
  have := gen n 0 b0 (by omega) h0
  simpa [Std.Legacy.Range.size] using this

section
variable {prog : Program} {w : World} {A : Around} {E : Value → Shared → Prop} {s : Shared}
theorem bjoin_pieces {pl : Addr} {ps : List (Array UInt8 × Tok)} {t : Tok} {Q : Value → Shared → Prop} (hl : s.heap.IsList pl (bvals ps).toArray) (hz : blens ps ≤ 16000000)
    (hQ : ∀ y t' k, y.toList = bytesOf ps → Q (.bytes y t') { s with toks := k }) : wpAny (model prog w) A (call (.builtin "bytes.join") [.bytes #[] t, .ref pl]) Q E s := by
  obtain ⟨o, e, hc, n, hd⟩ := id hl
  have hT := hl.typeIs
  refine wpAny_call (codeAny_call_builtin Fa.slot_bjoin.plain Fa.entry_bjoin (Fa.slot_bjoin.check _ _ _ _ _ _ _ _ (PySem.W.typeIs_bytes _ _ _) (Fa.args_bjoin _ _) ?_))
  unfold Builtin.«bytes.join» Bytes.joinM
  refine wpAny_bind (wpAny_of_eq (a := (Value.bytes #[] t, Value.ref pl)) rfl ?_)
  show wpAny _ A.in1 (Bytes.joinItems (.ref pl) >>= _) _ _ s
  refine wpAny_bind ?_
  unfold Bytes.joinItems
  refine wpAny_bind (wpAny_typeOf hT ?_)
  refine wpAny_pure ?_
  show wpAny _ A.in1 (seqItems? (.ref pl) >>= _) _ _ s
  refine wpAny_bind (wpAny_seqItems e hd ?_)
  have hsz : (bvals ps).toArray.size = ps.length := by simp [bvals]
  have hget : ∀ i p, ps[i]? = some p → (bvals ps).toArray.getD i .none = .bytes p.1 p.2 := fun i p h => by
    have : (bvals ps).toArray[i]? = some (.bytes p.1 p.2) := by simp [bvals, h]
    simp only [Array.getD_eq_getD_getElem?, this, Option.getD_some]
  have e2 : sizeLine = 16777216 := by decide
  have hany : ∀ l : List (Array UInt8 × Tok), ((l.map fun p => (Value.bytes p.1 p.2, (none : Option Value))).any fun x => x.1.onHeap) = false := fun l => by
    rw [List.any_map, List.any_eq_false]
    intro x _
    exact Bool.false_ne_true
  have fin : ∀ (ps' : List (Array UInt8 × Tok)), ps' = ps → ∀ (parts : Array (Array UInt8)) (taken : List (Value × Option Value)), parts = (ps'.map (·.1)).toArray → taken = ps'.map (fun p => (Value.bytes p.1 p.2, none)) →
      Bytes.tooLong (parts.foldl (· + ·.size) (0 * (parts.size - 1))) = false ∧ (Bytes.joined #[] parts.toList).toList = bytesOf ps ∧ (Bytes.joined #[] parts.toList).size ≤ sizeLine := by
    rintro ps' rfl parts taken rfl _
    have hj : (Bytes.joined #[] (ps'.map (·.1)).toArray.toList).toList = bytesOf ps' := by rw [joined_nil]; simp [bytesOf, List.flatMap_map]
    have hsum : ∀ (l : List (Array UInt8)) (a : Nat), l.foldl (fun n p => n + p.size) a = a + (l.map (·.size)).sum := by
      intro l
      induction l with
      | nil => intro a; simp
      | cons y r ih => intro a; rw [List.foldl_cons, ih]; simp; omega
    refine ⟨?_, hj, ?_⟩
    · rw [List.foldl_toArray, hsum, List.map_map]
      unfold Bytes.tooLong
      have : blens ps' = (ps'.map ((fun x => x.size) ∘ fun x => x.1)).sum := rfl
      rw [← this, e2]
      simp; omega
    · have : (Bytes.joined #[] (ps'.map (·.1)).toArray.toList).size = blens ps' := by
        rw [← Array.length_toList, hj]
        simp [bytesOf, blens, List.length_flatMap]
      rw [this]; omega
  match ps, hQ, hsz, hget, fin, hd, hz with
  | [p], hQ, hsz, hget, fin, hd, hz =>
    show wpAny _ A.in1 (typeOf (.bytes p.1 p.2) >>= _) _ _ s
    refine wpAny_bind (wpAny_typeOf (PySem.W.typeIs_bytes _ _ _) ?_)
    show wpAny _ A.in1 (rule _ >>= _) _ _ s
    refine wpAny_bind (wpAny_rule (wpAny_pure ?_))
    exact hQ p.1 p.2 s.toks (by simp [bytesOf])
  | [], hQ, hsz, hget, fin, hd, hz =>
    refine wpAny_bind (range_walk (I := fun i b => b.1 = ((([] : List (Array UInt8 × Tok)).take i).map (·.1)).toArray ∧ b.2 = (([] : List (Array UInt8 × Tok)).take i).map fun p => (Value.bytes p.1 p.2, none)) _ _ ⟨rfl, rfl⟩ (fun i b hi hb => ?_) fun b hb => ?_)
    · exact absurd hi (by rw [hsz]; exact Nat.not_lt_zero _)
    · obtain ⟨b1, b2⟩ := b
      obtain ⟨rfl, rfl⟩ := hb
      rw [hsz, List.take_length]
      obtain ⟨f1, f2, f3⟩ := fin ([] : List (Array UInt8 × Tok)) rfl _ _ rfl rfl
      show wpAny _ A.in1 (Bytes.payload (.bytes #[] t) >>= _) _ _ s
      refine wpAny_bind (wpAny_of_eq (a := #[]) rfl ?_)
      show wpAny _ A.in1 (if Bytes.tooLong ((([] : List (Array UInt8 × Tok)).map (·.1)).toArray.foldl (fun x1 x2 => x1 + x2.size) (0 * ((([] : List (Array UInt8 × Tok)).map (·.1)).toArray.size - 1))) = true then _ else _) _ _ s
      rw [f1]
      show wpAny _ A.in1 (mkBytes (Bytes.joined #[] (([] : List (Array UInt8 × Tok)).map (·.1)).toArray.toList) >>= _) _ _ s
      refine wpAny_bind (wpAny_mkBytes ?_ f3)
      refine wpAny_bind (wpAny_holding (wpAny_point ?_))
      refine wpAny_bind (letGo_all ?_ ([] : List (Array UInt8 × Tok)))
      exact wpAny_pure (hQ _ _ _ f2)
  | p :: q :: r, hQ, hsz, hget, fin, hd, hz =>
    show wpAny _ A.in1 (forIn [0:(bvals (p :: q :: r)).toArray.size] _ _ >>= _) _ _ s
    clear hl
    generalize p :: q :: r = PS at *
    refine wpAny_bind (range_walk (I := fun i b => b.1 = ((PS.take i).map (·.1)).toArray ∧ b.2 = (PS.take i).map fun p => (Value.bytes p.1 p.2, none)) _ _ ⟨rfl, rfl⟩ (fun i b hi hb => ?_) fun b hb => ?_)
    · obtain ⟨b1, b2⟩ := b
      obtain ⟨rfl, rfl⟩ := hb
      have hi' : i < PS.length := by rw [← hsz]; exact hi
      obtain ⟨y, hy⟩ : ∃ y, PS[i]? = some y := ⟨_, List.getElem?_eq_getElem hi'⟩
      show wpAny _ A.in1 (seqItems? (.ref pl) >>= _) _ _ s
      refine wpAny_bind (wpAny_seqItems e hd ?_)
      show wpAny _ A.in1 (if (false || (((PS.take i).map fun p => (Value.bytes p.1 p.2, (none : Option Value))).any fun x => x.1.onHeap)) = true then _ else _) _ _ s
      rw [hany, hget i y hy]
      show wpAny _ A.in1 (holding _ (Bytes.takeBufferQuiet? _ (.bytes y.1 y.2) 0) >>= _) _ _ s
      refine wpAny_bind (wpAny_holding (takeQuiet_bytes ?_))
      show wpAny _ A.in1 (seqItems? (.ref pl) >>= _) _ _ s
      refine wpAny_bind (wpAny_seqItems e hd ?_)
      show wpAny _ A.in1 (if ((bvals PS).toArray.size != (bvals PS).toArray.size) = true then _ else _) _ _ s
      rw [if_neg (by simp)]
      refine wpAny_pure ⟨_, rfl, ⟨?_, ?_⟩, rfl⟩
      · simp [List.take_add_one, hy]
      · simp [List.take_add_one, hy]
    · obtain ⟨b1, b2⟩ := b
      obtain ⟨rfl, rfl⟩ := hb
      rw [hsz, List.take_length]
      obtain ⟨f1, f2, f3⟩ := fin PS rfl _ _ rfl rfl
      show wpAny _ A.in1 (Bytes.payload (.bytes #[] t) >>= _) _ _ s
      refine wpAny_bind (wpAny_of_eq (a := #[]) rfl ?_)
      show wpAny _ A.in1 (if Bytes.tooLong ((PS.map (·.1)).toArray.foldl (fun x1 x2 => x1 + x2.size) (0 * ((PS.map (·.1)).toArray.size - 1))) = true then _ else _) _ _ s
      rw [f1]
      show wpAny _ A.in1 (mkBytes (Bytes.joined #[] (PS.map (·.1)).toArray.toList) >>= _) _ _ s
      refine wpAny_bind (wpAny_mkBytes ?_ f3)
      refine wpAny_bind (wpAny_holding (wpAny_point ?_))
      refine wpAny_bind (letGo_all ?_ PS)
      exact wpAny_pure (hQ _ _ _ f2)
end
end Mine

end

section -- RB
set_option maxRecDepth 100000
namespace Mine
open PySem PyProof.Rows PySem.Calls PySem.Builtin PySem.Builtin.Re Mine.Rx
open PySem.Sem (wp)

def ntext (ps : List (Array UInt8 × Tok)) : List Nat := (bytesOf ps).map (·.toNat)
theorem blens_snoc (ps : List (Array UInt8 × Tok)) (p : Array UInt8 × Tok) : blens (ps ++ [p]) = blens ps + p.1.size := by simp [blens]
theorem ntext_snoc (ps : List (Array UInt8 × Tok)) (p : Array UInt8 × Tok) : ntext (ps ++ [p]) = ntext ps ++ p.1.toList.map (·.toNat) := by simp [ntext, bytesOf]
theorem bvals_snoc (ps : List (Array UInt8 × Tok)) (p : Array UInt8 × Tok) : (bvals (ps ++ [p])).toArray = (bvals ps).toArray.push (.bytes p.1 p.2) := by simp [bvals]
theorem slice_bytes {T : Array Nat} {x : Array UInt8} (ht : x.map (·.toNat) = T) (d p : Nat) : ((T.extract d p).map (·.toUInt8)).toList.map (·.toNat) = (T.extract d p).toList := by
  subst ht
  rw [← Array.map_extract, Array.map_map]
  have : (fun (y : UInt8) => y.toNat) = fun y => y.toNat := rfl
  simp only [Array.toList_map, List.map_map]
  refine List.map_congr_left fun c _ => ?_
  simp
section
variable {M : Model} {A : Around} {E : Value → Shared → Prop} {s : Shared}
theorem turned_bytes {b : Array UInt8} {t : Tok} {Q : Unit → Shared → Prop} (h : Q () s) : wpAny M A (reLiteralCannotBeTurned (.bytes b t)) Q E s := by
  unfold reLiteralCannotBeTurned
  refine wpAny_bind (wpAny_of_eq (a := none) rfl ?_)
  exact wpAny_bind (wpAny_isInstance (PySem.W.typeIs_bytes _ _ _) Fa.bytes_sub (wpAny_pure h))
end
section
variable {prog : Program} {w : World} {A : Around} {E : Value → Shared → Prop}

theorem loop_bytes {R : Result → Shared → Prop} {pat ct pl : Addr} {code : Array Nat} {T rp : Array Nat} {x repl : Array UInt8} {t u : Tok} {next : Nat → Option (Nat × Nat)} {K : Nat} (hK : K ≤ 2 ^ 62)
    (hs : ∀ d must, d ≤ T.size → Hits K (Sre.forSearch code T 0 d T.size must) (Found (next d))) (on : Onward T next) (ht : x.map (·.toNat) = T) (hrp : repl.map (·.toNat) = rp) (hx : T.size ≤ 1000000) (hr : repl.size = 2) (hpp : pl ≠ pat) (hpc : pl ≠ ct) :
    ∀ (f d : Nat) (n : Int) (s : Shared) (ps : List (Array UInt8 × Tok)), T.size < d + f → d ≤ T.size → IsPat s.heap pat ct 1 code → s.heap.PlainList pl (bvals ps).toArray → blens ps ≤ 3 * d → ps.length ≤ 2 * d →
      (∀ h' tk t' (y : Array UInt8), y.toList.map (·.toNat) = ntext ps ++ glue (subAll T next rp f d) → KeepBut pl s.heap h' → R (.ok (.ret (.bytes y t'))) { s with heap := h', toks := tk }) →
      codeAny (model prog w) A (.builtin "re.Pattern.sub.loop" ⟨[.ref pat, .bytes x t, .bytes repl u, .int 0 0, .int 0 0, .int n 0, .int d 0, .int d 0, .bool false, .ref pl, .bool false], []⟩) R s
  | 0, d, n, s, ps, hf, hd, _, _, _, _, _ => by omega
  | f + 1, d, n, s, ps, hf, hd, hp, hl, hlen, hcnt, hR => by
    have e2 : sizeLine = 16777216 := by decide
    refine codeAny_builtin Fa.entry_loop ?_
    rw [Around.under_plainId Fa.plain_loop _]
    show wpAny _ A.in1 (reWholeTarget (.ref pat) (.bytes x t) >>= _) _ _ s
    refine wpAny_bind (target_bytes hp ?_)
    rw [ht]
    have hb : ∀ d p, ((T.extract d p).map (·.toUInt8)).toList.map (·.toNat) = (T.extract d p).toList := slice_bytes ht
    refine wpAny_bind (m := reLiteralCannotBeTurned (.bytes repl u)) (turned_bytes ?_)
    show wpAny _ A.in1 (reRunToEnd (Sre.forSearch code T 0 ((d : Int).toNat) T.size false) >>= _) _ _ s
    rw [Int.toNat_natCast]
    have hsz : (bvals ps).toArray.size = ps.length := by simp [bvals]
    refine wpAny_bind (toEnd_hits hK (hs d false hd) (fun p e m' hn h1 h2 => ?_) fun hn => ?_)
    · -- a match
      obtain ⟨o1, o2, o3⟩ := on.some d p e hd hn
      have esub : subAll T next rp (f + 1) d = (if d < p then [T.extract d p] else []) ++ (rp :: subAll T next rp f e) := by
        rw [subAll, hn]
      have again : ∀ (s' : Shared) (ps' : List (Array UInt8 × Tok)) (Rx : Prop), (∃ h' tk, s' = { s with heap := h', toks := tk } ∧ KeepBut pl s.heap h' ∧ h'.PlainList pl (bvals ps').toArray) →
          blens ps' + 2 ≤ 3 * e → ps'.length + 1 ≤ 2 * e → ntext ps' = ntext ps ++ glue (if d < p then [T.extract d p] else []) →
          wpAny (model prog w) A.in1 (do
            updateSeq pl (·.push (.bytes repl u))
            again (.builtin "re.Pattern.sub.loop" ⟨[.ref pat, .bytes x t, .bytes repl u, rawInt 0, rawInt 0, rawInt (n + 1), rawInt m'.handed, rawInt m'.handed, .bool (m'.handed == p), .ref pl, .bool false], []⟩))
            (fun fin s' => match fin with | .done f => R (.ok f) s' | .again c' => c'.quiet = true ∧ codeAny (model prog w) A c' R s') (fun e s' => R (.error e) s') s' := by
        rintro s' ps' _ ⟨h', tk, rfl, hk, hl'⟩ b1 b2 b3
        refine wpAny_bind (push_plain hl' (by simp [bvals]; omega) fun h₂ hl₂ hk₂ => wpAny_pure ⟨plainId_quiet Fa.plain_loop _, ?_⟩)
        rw [h2, show (e == p) = false from beq_eq_false_iff_ne.mpr (by omega)]
        rw [← bvals_snoc ps' (repl, u)] at hl₂
        refine loop_bytes hK hs on ht hrp hx hr hpp hpc f e (n + 1) _ (ps' ++ [(repl, u)]) (by omega) o3 (hp.at fun b o hb q => hk₂ b o ?_ (hk b o ?_ q)) hl₂ ?_ ?_ fun h₃ tk₃ t₃ y hy hk₃ => ?_
        · rcases hb with rfl | rfl <;> exact Ne.symm (by assumption)
        · rcases hb with rfl | rfl <;> exact Ne.symm (by assumption)
        · rw [blens_snoc]; simp only; omega
        · simp; omega
        · refine hR h₃ tk₃ t₃ y ?_ (hk.trans (hk₂.trans hk₃))
          rw [hy, ntext_snoc, b3, esub, glue_append, List.append_assoc, List.append_assoc, ← hrp]; simp [glue]
      show wpAny _ A.in1 (if (d : Int).toNat < m'.start then _ else _) _ _ s
      rw [Int.toNat_natCast, h1]
      by_cases hdp : d < p
      · rw [if_pos hdp]
        show wpAny _ A.in1 (reSlice T 1 d p >>= _) _ _ s
        show wpAny _ A.in1 (mkBytes ((T.extract d p).map (·.toUInt8)) >>= _) _ _ s
        refine wpAny_bind (wpAny_mkBytes ?_ (by simp; omega))
        refine wpAny_bind (push_plain hl (by rw [hsz]; omega) fun h₁ hl₁ hk₁ => ?_)
        rw [← bvals_snoc ps ((T.extract d p).map (·.toUInt8), s.toks)] at hl₁
        refine again _ (ps ++ [((T.extract d p).map (·.toUInt8), s.toks)]) True ⟨h₁, _, rfl, hk₁, hl₁⟩ ?_ ?_ ?_
        · rw [blens_snoc]; simp; omega
        · simp; omega
        · rw [ntext_snoc, if_pos hdp, hb]; simp [glue]
      · rw [if_neg hdp]
        refine again _ ps True ⟨s.heap, s.toks, rfl, .refl, hl⟩ (by omega) (by omega) ?_
        rw [if_neg hdp]; simp [glue]
    · -- no match more
      have esub : subAll T next rp (f + 1) d = if d < T.size then [T.extract d T.size] else [] := by
        rw [subAll, hn]
      have fin : ∀ (s' : Shared) (ps' : List (Array UInt8 × Tok)), (∃ h' tk, s' = { s with heap := h', toks := tk } ∧ KeepBut pl s.heap h' ∧ h'.PlainList pl (bvals ps').toArray) →
          blens ps' ≤ 4000000 → ntext ps' = ntext ps ++ glue (subAll T next rp (f + 1) d) →
          wpAny (model prog w) A.in1 (do
            let joiner ← reSlice T 1 0 0
            let text ← if ((← seqItems? (.ref pl)).getD #[]).isEmpty then pure joiner else call (.builtin "bytes.join") [joiner, .ref pl]
            ret text)
            (fun fin s' => match fin with | .done f => R (.ok f) s' | .again c' => c'.quiet = true ∧ codeAny (model prog w) A c' R s') (fun e s' => R (.error e) s') s' := by
        rintro s' ps' ⟨h', tk, rfl, hk, hl'⟩ b1 b3
        have z : (T.extract 0 0).map (·.toUInt8) = #[] := by simp
        refine wpAny_bind (m := reSlice T 1 0 0) ?_
        show wpAny _ A.in1 (mkBytes ((T.extract 0 0).map (·.toUInt8))) _ _ _
        rw [z]
        refine wpAny_mkBytes ?_ (by simp)
        obtain ⟨n', e'⟩ := id hl'
        refine wpAny_bind (wpAny_seqItems e' rfl ?_)
        dsimp only [Option.getD_some]
        cases ps' with
        | nil =>
          refine wpAny_bind (wpAny_pure (wpAny_pure ?_))
          exact hR h' _ _ _ (by rw [← b3]; rfl) hk
        | cons q r =>
          show wpAny _ A.in1 (call (.builtin "bytes.join") [.bytes #[] tk, .ref pl] >>= _) _ _ _
          refine wpAny_bind (bjoin_pieces (ps := q :: r) hl'.isList (by omega) fun y t' k hy => wpAny_pure ?_)
          exact hR h' _ _ y (by rw [hy]; exact b3) hk
      show wpAny _ A.in1 (if (d : Int).toNat < T.size then _ else _) _ _ s
      rw [Int.toNat_natCast]
      by_cases hdp : d < T.size
      · rw [if_pos hdp]
        show wpAny _ A.in1 (reSlice T 1 d T.size >>= _) _ _ s
        show wpAny _ A.in1 (mkBytes ((T.extract d T.size).map (·.toUInt8)) >>= _) _ _ s
        refine wpAny_bind (wpAny_mkBytes ?_ (by simp; omega))
        refine wpAny_bind (push_plain hl (by rw [hsz]; omega) fun h₁ hl₁ hk₁ => ?_)
        rw [← bvals_snoc ps ((T.extract d T.size).map (·.toUInt8), s.toks)] at hl₁
        refine fin _ (ps ++ [((T.extract d T.size).map (·.toUInt8), s.toks)]) ⟨h₁, _, rfl, hk₁, hl₁⟩ ?_ ?_
        · rw [blens_snoc]; simp; omega
        · rw [ntext_snoc, esub, if_pos hdp, hb]; simp [glue]
      · rw [if_neg hdp]
        refine fin _ ps ⟨s.heap, s.toks, rfl, .refl, hl⟩ (by omega) ?_
        rw [esub, if_neg hdp]; simp [glue]

variable {s : Shared}
theorem sub_dots_bytes {pat ct : Addr} {x repl : Array UInt8} {t u : Tok} {Q : Value → Shared → Prop} (hp : IsPat s.heap pat ct 1 c1) (hx : x.size ≤ 1000000) (hr : repl = #[46, 46])
    (hQ : ∀ h' tk t' (y : Array UInt8), y.toList.map (·.toNat) = Pl.quote true (x.toList.map (·.toNat)) → Keep s.heap h' → Q (.bytes y t') { s with heap := h', toks := tk }) :
    wpAny (model prog w) A (call (.builtin "re.Pattern.sub") [.ref pat, .bytes repl u, .bytes x t]) Q E s := by
  obtain ⟨o, a, b, e, hc, hd, hf⟩ := hp.obj
  have hT : s.TypeIs (.ref pat) "re.Pattern" := ⟨o, e, hc⟩
  have hTr : s.TypeIs (.bytes repl u) "bytes" := PySem.W.typeIs_bytes _ _ _
  have hlit : repl.contains 92 = false := by rw [hr]; decide +kernel
  refine wpAny_call (codeAny_call_builtin Fa.slot_sub.plain Fa.entry_sub (Fa.slot_sub.check _ _ _ _ _ _ _ _ hT (Fa.args_sub _ _ _) ?_))
  unfold Builtin.«re.Pattern.sub» reSubstitute
  refine wpAny_bind (wpAny_of_eq (named_two _ _) ?_)
  show wpAny _ A.in1 ((pure (0 : Int) : Sem Int) >>= _) _ _ s
  refine wpAny_bind (wpAny_pure ?_)
  refine wpAny_bind (wpAny_specialOf hTr Fa.bytes_no_call ?_)
  refine wpAny_bind (wpAny_of_eq (a := none) rfl ?_)
  refine wpAny_bind (bufferQuiet_bytes ?_)
  refine wpAny_bind (wpAny_pure ?_)
  rw [hlit]
  refine wpAny_bind (wpAny_pure ?_)
  refine wpAny_bind (wpAny_holding (target_bytes hp ?_))
  show wpAny _ A.in1 (newList [] >>= _) _ _ s
  refine wpAny_bind (wpAny_newObj_type ?_ (by size_fits))
  refine wpAny_pure ⟨plainId_quiet Fa.plain_loop _, ?_⟩
  have hlt := hp.lt
  have hsz : (x.map (·.toNat)).size = x.size := by simp
  refine loop_bytes (K := 5 * (x.size + 1) + 5) (next := next1 (x.map (·.toNat))) (T := x.map (·.toNat)) (rp := #[46, 46]) (by omega) (fun d must hd => (search1 hd).mono (by omega)) onward1 rfl (by rw [hr]; decide +kernel) (by omega) (by rw [hr]; rfl) (Nat.ne_of_gt hlt.1) (Nat.ne_of_gt hlt.2) ((x.map (·.toNat)).size + 1) 0 0 _ [] (by omega) (by omega)
    (hp.at fun b o _ q => Heap.get?_push_of_some _ q) ⟨0, Heap.get?_push_size _ rfl⟩ (by simp [blens]) (by simp) fun h' tk t' y hy hk => ?_
  refine hQ h' tk t' y ?_ fun b o q => hk b o (Nat.ne_of_lt (Heap.lt_size q)) (Heap.get?_push_of_some _ q)
  rw [hy, dots_all]
  simp [ntext, bytesOf]
end
end Mine

end

section -- BA
set_option maxRecDepth 100000
namespace Mine
open PySem PyProof.Rows PySem.Calls PySem.Builtin
open PySem.Sem (wp)
namespace Fa
theorem ba_mro : mroOf (.type "bytearray") = pure [.type "bytearray", .type "object"] := by rw [mroOf_type]; kernel_rfl
theorem ba_lookup_new : typeLookup (.type "bytearray") "__new__" = pure (some (.builtin "bytearray.__new__")) := by rw [typeLookup_type, builtinLookup_eq_fast]; kernel_rfl
theorem ba_made : Bind.madeBy (.type "bytearray") = pure (some "bytearray.__new__") := madeBy_type ba_mro ba_lookup_new (by decide +kernel)
theorem ba_slot_init : Slot "bytearray" "__init__" "bytearray.__init__" :=
  .of (owner := "bytearray") (n := "__init__") (by rw [typeLookup_type, builtinLookup_eq_fast]; kernel_rfl) (by decide +kernel) (by decide +kernel) (by decide +kernel)
    (by first | exact .inl (by decide +kernel) | exact .inr (by decide +kernel)) (by rw [isSubtype_type]; kernel_rfl)
theorem ba_create : ((Manifest.find? "bytearray").bind (·.mro.findSome? fun t => (Manifest.find? t).bind fun b => if b.noNew then some true else if b.attrs.any (·.1 == "__new__") then some false else none)).getD false = false := by decide +kernel
theorem ba_typeCall (a : Value) : checkTypeCall "bytearray" ⟨[a], []⟩ = pure () := by kernel_rfl
theorem ba_newCall (a : Value) : checkBuiltinCall "bytearray.__new__" ⟨[.type "bytearray", a], []⟩ = pure () := by kernel_rfl
theorem ba_new_plain : plainId "bytearray.__new__" = true := by decide +kernel
theorem ba_init_plain : plainId "bytearray.__init__" = true := by decide +kernel
theorem ba_new_entry : entryFor table "bytearray.__new__" = some Builtin.«list.__new__» :=
  entryFor_alias (id' := "list.__new__") (by kernel_rfl) (by first | rfl | decide +kernel) (by decide +kernel) (by kernel_rfl)
theorem ba_init_entry : entryFor table "bytearray.__init__" = some Builtin.«bytearray.__init__» := by first | exact entryFor_of_fast (by kernel_rfl) | exact entryFor_of_tree (by kernel_rfl)
theorem ba_sub : isSubtype (.type "bytearray") (.type "bytearray") = pure true := by rw [isSubtype_type]; kernel_rfl
theorem ba_args_init (a b : Value) : argsOk "bytearray.__init__" ⟨[a, b], []⟩ := by unfold argsOk; kernel_rfl
theorem ba_bind (v : Value) : Builtin.Bytes.bindOptional "bytearray.__init__" "bytearray" ["source", "encoding", "errors"] [v] [] = pure [some v, none, none] := by kernel_rfl
theorem ba_release : typeLookup (.type "bytearray") "__release_buffer__" = pure (some (.builtin "bytearray.__release_buffer__")) := by rw [typeLookup_type, builtinLookup_eq_fast]; kernel_rfl
theorem ba_buffer : typeLookup (.type "bytearray") "__buffer__" = pure (some (.builtin "bytearray.__buffer__")) := by rw [typeLookup_type, builtinLookup_eq_fast]; kernel_rfl
theorem ba_slot_set : Slot "bytearray" "__setitem__" "bytearray.__setitem__" :=
  .of (owner := "bytearray") (n := "__setitem__") (by rw [typeLookup_type, builtinLookup_eq_fast]; kernel_rfl) (by decide +kernel) (by decide +kernel) (by decide +kernel)
    (by first | exact .inl (by decide +kernel) | exact .inr (by decide +kernel)) (by rw [isSubtype_type]; kernel_rfl)
theorem ba_set_entry : entryFor table "bytearray.__setitem__" = some Builtin.«bytearray.__setitem__» := by first | exact entryFor_of_fast (by kernel_rfl) | exact entryFor_of_tree (by kernel_rfl)
theorem ba_set_args (a b c : Value) : argsOk "bytearray.__setitem__" ⟨[a, b, c], []⟩ := by unfold argsOk; kernel_rfl
theorem ba_no_bytes : typeLookup (.type "bytearray") "__bytes__" = pure none := by rw [typeLookup_type, builtinLookup_eq_fast]; kernel_rfl
theorem ba_no_index : typeLookup (.type "bytearray") "__index__" = pure none := by rw [typeLookup_type, builtinLookup_eq_fast]; kernel_rfl
end Fa
set_option maxRecDepth 1000000 in
set_option maxHeartbeats 4000000 in
theorem owner_ba : ("bytearray.__new__".splitOn ".__new__").headD "" = "bytearray" := by simp +decide [String.splitOn, String.splitOnAux]
end Mine

end

section -- BB
set_option maxRecDepth 100000
namespace Mine
open PySem PyProof.Rows PySem.Calls PySem.Builtin
open PySem.Sem (wp)

abbrev baObj (b : Array UInt8) : Obj := { cls := .type "bytearray", data := .bytearray b }

section
variable {M : Model} {A : Around} {s : Shared}

theorem exported_not {self : Value} {Q : Bool → Shared → Prop} (hg : A.guards = some []) (h : Q false s) : wpc M A (Bytes.exported self) Q s := by
  intro Γ p hΓ hc
  have hall : ∀ x ∈ (Γ.code, p) :: Γ.below, x.1.isGuard = false ∧ decodes x.1 = false := by
    have hgs : guardsOf ((Γ.code, p) :: Γ.below) = [] := by rw [guardsOf_cons]; exact hΓ.2.2.2.1 [] hg
    intro x hx
    refine ⟨?_, ?_⟩
    · cases hq : x.1.isGuard with
      | false => rfl
      | true =>
        have : x.1 ∈ guardsOf ((Γ.code, p) :: Γ.below) := List.mem_filter.mpr ⟨List.mem_map_of_mem hx, hq⟩
        rw [hgs] at this; cases this
    · rcases List.mem_cons.mp hx with rfl | hx
      · exact hc.1
      · exact hc.2 x hx
  unfold Bytes.exported
  show Q (List.any ((Γ.code, p) :: Γ.below) _) s
  refine (congrArg (fun b => Q b s) (List.any_eq_false.mpr fun x hx => ?_)).mpr h
  obtain ⟨hg', hd⟩ := hall x hx
  obtain ⟨c, q⟩ := x
  have gd : ∀ (i : String) (as : Args), guardIds.contains i = true → (Code.builtin i as).isGuard = false → False := fun i as h1 h2 => by
    rw [show (Code.builtin i as).isGuard = guardIds.contains i from rfl, h1] at h2; cases h2
  split
  · rename_i he; cases he; exact (gd _ _ (by decide +kernel) hg').elim
  · rename_i he; cases he; exact (gd _ _ (by decide +kernel) hg').elim
  · rename_i he; cases he; exact (gd _ _ (by decide +kernel) hg').elim
  · rename_i he; cases he; exact (gd _ _ (by decide +kernel) hg').elim
  · rename_i he; cases he; exact (gd _ _ (by decide +kernel) hg').elim
  · rename_i he
    cases he
    rw [show Bytes.decodersThatHold.contains _ = false from hd, Bool.and_false]
    exact Bool.false_ne_true
  · exact Bool.false_ne_true
end

section
variable {M : Model} {A : Around} {E : Value → Shared → Prop} {s : Shared} {a : Addr} {b : Array UInt8}

theorem typeIs_ba (h : s.heap.get? a = some (baObj b)) : s.TypeIs (.ref a) "bytearray" := ⟨_, h, rfl⟩
theorem release_ba (h : s.heap.get? a = some (baObj b)) {Q : Bool → Shared → Prop} (hq : Q false s) : wpAny M A (Bytes.ownRelease (.ref a)) Q E s := by
  have hT := typeIs_ba h
  unfold Bytes.ownRelease Bytes.slotIsOwn
  refine wpAny_bind (wpAny_bind (wpAny_specialOf hT Fa.ba_release ?_))
  show wpAny M A (if (!("bytearray.__release_buffer__".endsWith ("." ++ "__release_buffer__"))) = true then _ else _) _ E s
  rw [if_neg (by decide +kernel)]
  show wpAny M A (isInstance (.ref a) (.type ("bytearray.__release_buffer__".dropRight ("__release_buffer__".length + 1)))) _ E s
  rw [show "bytearray.__release_buffer__".dropRight ("__release_buffer__".length + 1) = "bytearray" from by decide +kernel]
  exact wpAny_isInstance hT Fa.ba_sub (wpAny_pure hq)
theorem own_ba (h : s.heap.get? a = some (baObj b)) {Q : Bool → Shared → Prop} (hq : Q true s) : wpAny M A (Bytes.slotIsOwn (.ref a) "__buffer__") Q E s := by
  have hT := typeIs_ba h
  unfold Bytes.slotIsOwn
  refine wpAny_bind (wpAny_specialOf hT Fa.ba_buffer ?_)
  show wpAny M A (if (!("bytearray.__buffer__".endsWith ("." ++ "__buffer__"))) = true then _ else _) _ E s
  rw [if_neg (by decide +kernel)]
  show wpAny M A (isInstance (.ref a) (.type ("bytearray.__buffer__".dropRight ("__buffer__".length + 1)))) _ E s
  rw [show "bytearray.__buffer__".dropRight ("__buffer__".length + 1) = "bytearray" from by decide +kernel]
  exact wpAny_isInstance hT Fa.ba_sub hq
theorem payload_ba (h : s.heap.get? a = some (baObj b)) {Q : Array UInt8 → Shared → Prop} (hq : Q b s) : wpAny M A (Bytes.payload (.ref a)) Q E s := by
  unfold Bytes.payload Bytes.payload?
  exact wpAny_bind (wpAny_bind (wpAny_load h (wpAny_pure (wpAny_pure hq))))
theorem write_ba (h : s.heap.get? a = some (baObj b)) {f : Array UInt8 → Array UInt8} (hz : (f b).size ≤ sizeLine) {Q : Unit → Shared → Prop}
    (hq : ∀ h', h'.get? a = some (baObj (f b)) → (∀ c o, c ≠ a → s.heap.get? c = some o → h'.get? c = some o) → Q () { s with heap := h' }) : wpAny M A (Bytes.write (.ref a) f) Q E s := by
  show wpAny M A (updateBytearray a f) Q E s
  unfold updateBytearray
  refine wpAny_bind (wpAny_load h ?_)
  show wpAny M A (update a (Obj.mapBytearray f) >>= fun _ => lookBehind a) Q E s
  refine wpAny_bind (wpAny_update h ?_)
  have h2 : (s.heap.update a (Obj.mapBytearray f)).get? a = some (baObj (f b)) := Heap.get?_update_self (Obj.mapBytearray f) h rfl
  refine wpAny_lookBehind h2 ?_ (hq _ h2 fun c o hc e => (Heap.get?_update_other _ _ (Ne.symm hc)).trans e)
  show (if (f b).size > sizeLine then some "bytearray:memory" else none) = none
  rw [if_neg (Nat.not_lt.mpr hz)]
theorem buffer_ba {id : String} {full : Bool} (h : s.heap.get? a = some (baObj b)) {Q : Option (Array UInt8) → Shared → Prop} (hq : Q (some b) s) : wpAny M A (Bytes.buffer? id (.ref a) full) Q E s := by
  have hT := typeIs_ba h
  unfold Bytes.buffer?
  refine wpAny_bind (wpAny_specialOf hT Fa.ba_buffer ?_)
  show wpAny M A (Bytes.slotIsOwn (.ref a) "__buffer__" >>= _) Q E s
  refine wpAny_bind (own_ba h ?_)
  show wpAny M A (specialOf (.ref a) "__buffer__" >>= _) Q E s
  refine wpAny_bind (wpAny_specialOf hT Fa.ba_buffer ?_)
  show wpAny M A (Bytes.ownRelease (.ref a) >>= _) Q E s
  refine wpAny_bind (release_ba h ?_)
  exact wpAny_bind (payload_ba h (wpAny_pure hq))
end

section
variable {prog : Program} {w : World} {A : Around} {E : Value → Shared → Prop} {s : Shared}

theorem code_ba_new (a : Value) {Q₁ : Value → Shared → Prop}
    (h : Q₁ (.ref s.heap.objs.size) { s with heap := s.heap.push (baObj #[]) }) :
    codeAny (model prog w) A (.call (.builtin "bytearray.__new__") ⟨[.type "bytearray", a], []⟩) (wants Q₁ E) s := by
  refine codeAny_of_tree ?_
  show wpAny _ A.in1 (do checkBuiltinCall "bytearray.__new__" ⟨[.type "bytearray", a], []⟩; again (.builtin "bytearray.__new__" ⟨[.type "bytearray", a], []⟩)) _ _ s
  refine wpAny_bind (wpAny_of_eq (Fa.ba_newCall a) (wpAny_pure ⟨plainId_quiet Fa.ba_new_plain _, codeAny_builtin_stack Fa.ba_new_entry rfl fun p st => ?_⟩))
  rw [Around.under_plainId Fa.ba_new_plain _]
  have hsub := Fa.ba_sub
  have hown := owner_ba
  obtain ⟨hp, g, d, tk, os⟩ := s
  simp only [hown]
  wp_walk
  exact h

theorem ba_init {a : Addr} {n : Nat} {t : Tok} {R : Value → Shared → Prop} (hg : A.guards = some []) (h : s.heap.get? a = some (baObj #[])) (hn : n ≤ 1000000)
    (hq : ∀ h', h'.get? a = some (baObj (Array.replicate n 0)) → (∀ c o, c ≠ a → s.heap.get? c = some o → h'.get? c = some o) → R .none { s with heap := h' }) :
    wpc (model prog w) A (Builtin.«bytearray.__init__» ⟨[.ref a, .int n t], []⟩) (fun fin s' => ∃ v, fin = .done (.ret v) ∧ R v s') s := by
  have e2 : sizeLine = 16777216 := by decide
  have hz0 : ((fun (_ : Array UInt8) => (#[] : Array UInt8)) #[]).size ≤ sizeLine := by rw [e2]; exact Nat.zero_le _
  unfold Builtin.«bytearray.__init__»
  refine wpc_bind (wpc_any (release_ba h (show wpc _ _ _ _ _ from ?_)))
  refine wpc_bind (wpc_of_eq (Fa.ba_bind _) ?_)
  refine wpc_bind (wpc_of_eq (a := ()) rfl ?_)
  refine wpc_bind (wpc_of_eq (a := ()) rfl ?_)
  refine wpc_bind ?_
  unfold orM
  refine wpc_bind (exported_not hg ?_)
  show wpc _ _ (Bytes.exportsOf (.ref a) >>= _) _ _
  refine wpc_bind (wpc_any (show wpAny _ _ (load a >>= _) _ _ _ from wpAny_bind (wpAny_load h (wpAny_pure (show wpc _ _ _ _ _ from ?_)))))
  refine wpc_pure ?_
  show wpc _ _ (Bytes.write (.ref a) (fun _ => #[]) >>= _) _ _
  refine wpc_bind (wpc_any (write_ba (f := fun _ => #[]) h hz0 ?_))
  intro h₁ e₁ k₁
  show wpc _ _ (asStr? (.int (n : Int) t) >>= _) _ _
  have ea : asStr? (.int (n : Int) t) = pure none := rfl
  have ei : specialOf (.int (n : Int) t) "__index__" = pure (some (.builtin "int.__index__")) := int_index
  have et : (asIndex (.int (n : Int) t)).attempt = pure (Except.ok (n : Int)) := rfl
  have f1 : Bytes.fitsIndex (n : Int) = true := by
    unfold Bytes.fitsIndex; simp; omega
  have f2 : ((n : Int) < 0) = False := by simp
  have f3 : ((n : Int) == 2 ^ 63 - 1) = false := by simp; omega
  have f4 : Bytes.tooLong (n : Int).toNat = false := by unfold Bytes.tooLong; rw [e2]; simp; omega
  simp only [ea, pure_bind, Option.isSome_none, Option.isSome_some, Bool.false_eq_true, if_false, ei, if_true, et, f1, Bool.not_true, f2, f3, f4]
  refine wpc_bind (wpc_any (wpAny_rule (show wpc _ _ _ _ _ from ?_)))
  by_cases hn0 : n = 0
  · subst hn0
    rw [if_neg (by omega)]
    exact wpc_pure ⟨_, rfl, hq h₁ e₁ k₁⟩
  · rw [if_pos (by omega)]
    refine wpc_bind (wpc_any (write_ba (f := fun _ => Array.replicate (n : Int).toNat 0) e₁ (by simp; omega) fun h₂ e₂ k₂ => (show wpc _ _ _ _ _ from ?_)))
    exact wpc_pure ⟨_, rfl, hq h₂ e₂ fun c o hc e => k₂ c o hc (k₁ c o hc e)⟩

theorem codec_builtin {id : String} {args : Args} {b : Builtin} {R : Flow → Shared → Prop} (hb : entryFor table id = some b) (hd : Bytes.decodersThatHold.contains id = false)
    (h : wpc (model prog w) (A.under (.builtin id args)) (b args) (fun fin s' => match fin with | .done f => R f s' | .again c' => c'.quiet = true ∧ codec (model prog w) A c' R s') s) :
    codec (model prog w) A (.builtin id args) R s := by
  refine codec_tree hd ?_
  have e : (model prog w).den (.builtin id args) = b args := by
    show (match entryFor table id with | some b => b args | none => unsupported ((withoutEnding? id "#data").getD id)) = _
    rw [hb]
  rw [e]; exact h
theorem codec_call_builtin {id : String} {self : Value} {rest : List Value} {T : String} {name : Str} {b : Builtin} {R : Flow → Shared → Prop} (slot : Slot T name id) (hb : entryFor table id = some b) (hd : Bytes.decodersThatHold.contains id = false)
    (hT : s.TypeIs self T) (ha : argsOk id ⟨self :: rest, []⟩)
    (h : wpc (model prog w) A.in1 (b ⟨self :: rest, []⟩) (fun fin s' => match fin with | .done f => R f s' | .again c' => c'.quiet = true ∧ codec (model prog w) A c' R s') s) :
    codec (model prog w) A (.call (.builtin id) ⟨self :: rest, []⟩) R s := by
  refine codec_tree rfl ?_
  show wpc _ _ (do checkBuiltinCall id ⟨self :: rest, []⟩; again (.builtin id ⟨self :: rest, []⟩)) _ _
  refine wpc_bind (wpc_any (slot.check _ _ _ _ _ _ _ _ hT ha (show wpc _ _ _ _ _ from wpc_pure ⟨plainId_quiet slot.plain _, codec_builtin hb hd ?_⟩)))
  rw [Around.under_plainId slot.plain _]; exact h

theorem call_bytearray {n : Nat} {t : Tok} {Q : Value → Shared → Prop} (hg : A.guards = some []) (hn : n ≤ 1000000)
    (hq : ∀ h', h'.get? s.heap.objs.size = some (baObj (Array.replicate n 0)) → Keep s.heap h' → Q (.ref s.heap.objs.size) { s with heap := h' }) :
    wpc (model prog w) A (call (.type "bytearray") [.int n t]) Q s := by
  refine wpc_call (codec_tree rfl ?_)
  show wpc _ _ (callAny (.type "bytearray") _) _ _
  refine wpc_pure ⟨Code.quiet_builtin _ (by decide +kernel), codec_builtin F.entry_type_call (by decide +kernel) ?_⟩
  rw [Around.under_plain (weight_type_call_type "bytearray" [.int n t] []) rfl]
  unfold Builtin.«type.__call__»
  show wpc _ _ (if (Value.type "bytearray" == Value.type "type") = true then _ else _) _ _
  rw [if_neg (by decide)]
  show wpc _ _ (if ((Manifest.find? "bytearray").bind _).getD false = true then _ else _) _ _
  rw [if_neg (by rw [show Option.getD _ _ = _ from Fa.ba_create]; exact Bool.false_ne_true)]
  refine wpc_bind (wpc_of_eq (Fa.ba_typeCall _) ?_)
  refine wpc_bind (wpc_of_eq Fa.ba_mro ?_)
  show wpc _ _ (Bind.madeBy (.type "bytearray") >>= _) _ _
  refine wpc_bind (wpc_of_eq Fa.ba_made ?_)
  refine wpc_bind (wpc_pure ?_)
  refine wpc_bind (wpc_holding (wpc_any (wpAny_call (codeAny_mono (code_ba_new (Q₁ := fun v s' => v = .ref s.heap.objs.size ∧ s' = { s with heap := s.heap.push (baObj #[]) }) (E := NoE) _ ⟨rfl, rfl⟩) ?_))))
  rintro r s' hr
  match r, hr with
  | .ok (.ret v), ⟨hv, hs'⟩ =>
    subst hv hs'
    have e0 : (s.heap.push (baObj #[])).get? s.heap.objs.size = some (baObj #[]) := Heap.get?_push_size _ rfl
    have hT : ({ s with heap := s.heap.push (baObj #[]) } : Shared).TypeIs (.ref s.heap.objs.size) "bytearray" := ⟨_, e0, rfl⟩
    show wpc _ _ _ _ _
    refine wpc_bind (wpc_any (wpAny_isInstance hT Fa.ba_sub (show wpc _ _ _ _ _ from ?_)))
    show wpc _ _ (holding [.ref s.heap.objs.size] (callSpecial? (.ref s.heap.objs.size) "__init__" [.int n t] []) >>= _) _ _
    refine wpc_bind (wpc_holding ?_)
    unfold callSpecial?
    refine wpc_bind (wpc_any (wpAny_specialOf hT Fa.ba_slot_init.lookup (show wpc _ _ _ _ _ from ?_)))
    show wpc _ _ (holding _ (bindSpecial (.builtin "bytearray.__init__") (.ref s.heap.objs.size) >>= _)) _ _
    refine wpc_holding (wpc_bind (wpc_of_eq (Fa.ba_slot_init.bind _) ?_))
    refine wpc_bind (wpc_call (codec_call_builtin Fa.ba_slot_init Fa.ba_init_entry (by decide +kernel) hT (Fa.ba_args_init _ _) ?_))
    refine wpc_mono (ba_init (A := A.in1.in1) (R := fun v s' => v = .none ∧ ∃ h', h'.get? s.heap.objs.size = some (baObj (Array.replicate n 0)) ∧ Keep s.heap h' ∧ s' = { s with heap := h' }) hg e0 hn fun h' e' k' => ⟨rfl, h', e', fun c o e => ?_, rfl⟩) ?_
    · exact k' c o (Nat.ne_of_lt (Heap.lt_size e)) (Heap.get?_push_of_some _ e)
    · rintro fin s' ⟨v, rfl, rfl, h', e', k', rfl⟩
      refine ⟨_, rfl, ?_⟩
      refine wpc_pure ?_
      exact wpc_pure ⟨_, rfl, hq h' e' k'⟩

theorem setItem_ba {a : Addr} {b : Array UInt8} {k v : Int} {t u : Tok} {Q : Unit → Shared → Prop} (h : s.heap.get? a = some (baObj b)) (hk0 : 0 ≤ k) (hk : k < b.size) (hb : b.size ≤ 1000000) (hv0 : 0 ≤ v) (hv : v < 256)
    (hQ : ∀ h', h'.get? a = some (baObj (b.setIfInBounds k.toNat v.toNat.toUInt8)) → (∀ c o, c ≠ a → s.heap.get? c = some o → h'.get? c = some o) → Q () { s with heap := h' }) :
    wpAny (model prog w) A (setItem (.ref a) (.int k t) (.int v u)) Q E s := by
  have e2 : sizeLine = 16777216 := by decide
  have hT := typeIs_ba h
  unfold setItem
  refine wpAny_holding ?_
  refine wpAny_bind (wpAny_sequenceKey hT (by decide) ?_)
  refine wpAny_bind (wpAny_callSpecial?_slot (name := Str.ofString "__setitem__") hT Fa.ba_slot_set ?_)
  refine wpAny_call (codeAny_call_builtin Fa.ba_slot_set.plain Fa.ba_set_entry (Fa.ba_slot_set.check _ _ _ _ _ _ _ _ hT (Fa.ba_set_args _ _ _) ?_))
  unfold Builtin.«bytearray.__setitem__»
  have es : ∀ {Q' : Option Int → Shared → Prop} {E' : Value → Shared → Prop}, Q' (some k) s → wpAny (model prog w) A.in1 (Bytes.subscript? (.int k t)) Q' E' s := by
    intro Q' E' hq
    unfold Bytes.subscript?
    refine wpAny_bind (wpAny_specialOf (T := "int") (typeIs_int s k t) int_index ?_)
    show wpAny _ _ (asIndex (.int k t) >>= _) _ _ s
    refine wpAny_bind (wpAny_of_eq (a := k) rfl ?_)
    have f1 : Bytes.fitsIndex k = true := by unfold Bytes.fitsIndex; simp; omega
    simp only [f1, Bool.not_true, Bool.false_eq_true, if_false]
    exact wpAny_pure hq
  have ev : ∀ {Q' : UInt8 → Shared → Prop} {E' : Value → Shared → Prop}, Q' v.toNat.toUInt8 s → wpAny (model prog w) A.in1 (Bytes.byteValue (.int v u)) Q' E' s := by
    intro Q' E' hq
    unfold Bytes.byteValue
    refine wpAny_bind (wpAny_of_eq (a := v) rfl ?_)
    have f1 : (decide (v < 0) || decide (v ≥ 256)) = false := by simp; omega
    simp only [f1, Bool.false_eq_true, if_false]
    exact wpAny_pure hq
  show wpAny _ A.in1 (Bytes.subscript? (.int k t) >>= _) _ _ s
  refine wpAny_bind (es ?_)
  refine wpAny_bind (ev ?_)
  refine wpAny_bind (payload_ba h ?_)
  rw [seqIndex_of hk0 hk]
  refine wpAny_bind (write_ba (f := fun x => x.setIfInBounds k.toNat v.toNat.toUInt8) h (by simp; omega) fun h' e' k' => ?_)
  exact wpAny_pure (wpAny_pure (hQ h' e' k'))

theorem code_bytes_of_ba {a : Addr} {b : Array UInt8} {Q : Value → Shared → Prop} (h : s.heap.get? a = some (baObj b)) (hb : b.size ≤ 1000000)
    (hQ : Q (.bytes b s.toks) { s with toks := s.toks + 1 }) :
    codeAny (model prog w) A (.call (.builtin "bytes.__new__") ⟨[.type "bytes", .ref a], []⟩) (wants Q E) s := by
  have e2 : sizeLine = 16777216 := by decide
  refine codeAny_of_tree ?_
  show wpAny _ A.in1 (do checkBuiltinCall "bytes.__new__" ⟨[.type "bytes", .ref a], []⟩; again (.builtin "bytes.__new__" ⟨[.type "bytes", .ref a], []⟩)) _ _ s
  refine wpAny_bind (wpAny_of_eq (F.bm_newCall _) (wpAny_pure ⟨plainId_quiet F.bm_plain _, codeAny_builtin F.bm_entry ?_⟩))
  rw [Around.under_plainId F.bm_plain _]
  have hT := typeIs_ba h
  unfold Builtin.«bytes.__new__»
  refine wpAny_bind (wpAny_of_eq (a := true) rfl ?_)
  refine bm_if_false rfl ?_
  refine wpAny_bind (wpAny_of_eq F.bm_sub ?_)
  refine bm_if_false rfl ?_
  refine wpAny_bind (wpAny_of_eq (F.bm_bind _) ?_)
  refine wpAny_bind (wpAny_of_eq (a := ()) rfl ?_)
  refine wpAny_bind (wpAny_of_eq (a := ()) rfl ?_)
  refine bm_if_false rfl ?_
  refine wpAny_bind (wpAny_specialOf hT Fa.ba_no_bytes ?_)
  refine wpAny_bind (wpAny_bind ?_)
  show wpAny _ _ (load a >>= _) _ _ _
  refine wpAny_bind (wpAny_load h ?_)
  refine wpAny_pure (wpAny_pure ?_)
  refine bm_if_false rfl ?_
  refine wpAny_bind (wpAny_specialOf hT Fa.ba_no_index ?_)
  refine bm_if_true rfl ?_
  first
    | show wpAny _ _ (Builtin.Bytes.buffer? "bytes.__new__" (.ref a) true >>= _) _ _ _
    | (refine wpAny_bind ?_; show wpAny _ _ (Builtin.Bytes.buffer? "bytes.__new__" (.ref a) true >>= _) _ _ _)
  refine wpAny_bind (buffer_ba h ?_)
  refine wpAny_bind (wpAny_rule ?_)
  refine wpAny_bind (wpAny_mkBytes ?_ (by omega))
  show wpAny _ _ (if (Value.type "bytes" == Value.type "bytes") = true then _ else _) _ _ _
  refine bm_if_true (by decide) ?_
  exact wpAny_pure hQ

theorem call_bytes_ba {a : Addr} {b : Array UInt8} {Q : Value → Shared → Prop} (h : s.heap.get? a = some (baObj b)) (hb : b.size ≤ 1000000) (hQ : ∀ t k, Q (.bytes b t) { s with toks := k }) :
    wpAny (model prog w) A (call (.type "bytes") [.ref a]) Q E s := by
  refine callType_codes (Q₁ := fun obj s₁ => s₁.TypeIs obj "bytes" ∧ Q obj s₁) F.bm_called (F.bm_typeCall _) F.entry_object_init
    (code_bytes_of_ba h hb ⟨PySem.W.typeIs_bytes _ _ _, hQ _ _⟩) fun obj s₁ h₁ => ?_
  exact ⟨h₁.1, F.args_object_init_2 obj _, object_init_meets F.bm_called.init.lookup F.bm_called.made (by decide) prog w A.in1 _ s₁ ⟨h₁.1, rfl, h₁.2⟩⟩
end
end Mine

end

section -- GR
set_option maxRecDepth 100000
namespace Mine
open PySem PySem.W PyProof.Rows PySem.Calls

/-- the written part of the heap -/
noncomputable abbrev KK (w : World) : Frag := hd.heap_39 w.params

/-- the ground on which the defs stand -/
structure Gd (w : World) (h : Heap) : Prop where
  K : (KK w).In h
  lim : h.NoLimit
  ns : ∃ mg mb, h.Ns mainGlobals mg ∧ h.Ns builtinsNs mb ∧ ∀ x : Str, x ≠ "__name__" → mb x = bootBuiltins x
theorem Gd.keep {w : World} {h h' : Heap} (g : Gd w h) (k : Keep h h') : Gd w h' :=
  let ⟨mg, mb, a, b, c⟩ := g.ns
  ⟨fun a o e => k _ _ (g.K a o e), g.lim.keeps k, mg, mb, a.keeps k, b.keeps k, c⟩

section
variable {prog : Program} {w : World} {A : Around} {E : Value → Shared → Prop} {s : Shared} {env : Env}

theorem name_g {M : Model} {x : Str} {pos : Pos} {v : Value} {Q : Value → Shared → Prop} (G : Gd w s.heap) (e : nsIn (KK w) mainGlobals x = some (some v)) (h : Q v s)
    (hg : env.globals = mainGlobals := by rfl) (hk : env.scope.kind = .function := by rfl) (hx : env.kindOf x = some .globalImplicit := by rfl) (hd : (x == ("__debug__" : Str)) = false := by decide) :
    wpAny M A (eval (.Name x pos) env) Q E s := by
  obtain ⟨mg, mb, a, b, c⟩ := G.ns
  exact Name_function_global hk hx (loadGlobal_global (env := env) (by rw [hg]; exact a) (mg_of G.K a e) h) hd
theorem name_b {M : Model} {x : Str} {pos : Pos} {v : Value} {Q : Value → Shared → Prop} (G : Gd w s.heap) (e : nsIn (KK w) mainGlobals x = some none) (hv : bootBuiltins x = some v) (h : Q v s)
    (hn : x ≠ "__name__" := by decide) (hg : env.globals = mainGlobals := by rfl) (hb : env.builtins = builtinsNs := by rfl) (hk : env.scope.kind = .function := by rfl) (hx : env.kindOf x = some .globalImplicit := by rfl) (hd : (x == ("__debug__" : Str)) = false := by decide) :
    wpAny M A (eval (.Name x pos) env) Q E s := by
  obtain ⟨mg, mb, a, b, c⟩ := G.ns
  exact Name_function_global hk hx (loadGlobal_builtin (env := env) (by rw [hg]; exact a) (mg_none_of G.K a e) (by rw [hb]; exact b) ((c x hn).trans hv) h) hd

theorem call_fn {Q : Value → Shared → Prop} {f : Addr} {vals : List Value} {binds : List (Str × Value)} {name qual : Str} {params : Arguments} {body : List Stmt} {scope : Scope} {dV kV doc pm cdv ct oc : Value} {an od : Option Addr} {osl : Array (Option Value)}
    (ho : (KK w).lookup f = some ⟨oc, od, .func (fnOf name qual params body scope dV kV doc pm an cdv ct), osl⟩) (G : Gd w s.heap) (hcd : codeIn (KK w) cdv qual = true) (hroom : A.depth < recursionLimit)
    (hbind : bindArgs (fnOf name qual params body scope dV kV doc pm an cdv ct) ⟨vals, []⟩ = pure binds) (hloc : (binds.all fun x => decide (scope.names.lookup x.1 = some .local)) = true)
    (h : ∀ h₁ L, L = s.heap.objs.size → Fr s.heap L h₁ (fun x => binds.reverse.lookup x) →
      wpAny (model prog w) (A.deeper (envOf qual scope L f cdv)) (execs body (envOf qual scope L f cdv)) (fun fl s' => ∃ v, fl = .ret v ∧ Q v s') NoE { s with heap := h₁, toks := s.toks + binds.length })
    (hcell : ∀ x ∈ scope.names, x.2 ≠ .cell := by decide) (hco : scope.isCoroutine = false := by rfl) (hgen : scope.isGenerator = false := by rfl) (hk : scope.kind = .function := by rfl) :
    wpAny (model prog w) A (call (.ref f) vals) Q E s := by
  refine wpAny_call (codeAny_call_def (fd := fnOf name qual params body scope dV kV doc pm an cdv ct) (body := body) (binds := binds) hroom (G.K _ _ ho) rfl G.lim (codeRec_of G.K hcd) rfl (.of_eq hbind) hcell (locs hloc) (fun h₁ hns hk₁ => ?_) hco hgen hk)
  refine wpAny_mono (h h₁ _ rfl ⟨hns, hk₁, Nat.le_refl _⟩) (fun fl s' hq => ?_) fun _ _ x => x.elim
  obtain ⟨v, rfl, hv⟩ := hq
  exact hv

theorem pat1 (G : Gd w s.heap) : IsPat s.heap 36 35 0 Rx.c1 := ⟨⟨_, _, _, G.K 36 _ rfl, rfl, rfl, rfl⟩, ⟨_, 0, G.K 35 _ rfl, by simp [Rx.c1]⟩⟩
theorem pat2 (G : Gd w s.heap) : IsPat s.heap 41 40 1 Rx.c1 := ⟨⟨_, _, _, G.K 41 _ rfl, rfl, rfl, rfl⟩, ⟨_, 0, G.K 40 _ rfl, by simp [Rx.c1]⟩⟩
theorem pat3 (G : Gd w s.heap) : IsPat s.heap 46 45 0 Rx.c3 := ⟨⟨_, _, _, G.K 46 _ rfl, rfl, rfl, rfl⟩, ⟨_, 0, G.K 45 _ rfl, by simp [Rx.c3]⟩⟩
end

section
variable (w : World)
theorem g_re1 : nsIn (KK w) mainGlobals "_twin_re_1" = some (some (.ref 36)) := by kernel_rfl
theorem g_re2 : nsIn (KK w) mainGlobals "_twin_re_2" = some (some (.ref 41)) := by kernel_rfl
theorem g_re3 : nsIn (KK w) mainGlobals "_twin_re_3" = some (some (.ref 46)) := by kernel_rfl
theorem g_crlf : nsIn (KK w) mainGlobals "CRLF" = some (some (.str (Str.ofString "\r\n") 358)) := by kernel_rfl
end
end Mine

end

section -- F1
set_option maxRecDepth 100000
namespace Mine
open PySem PySem.W PyProof.Rows PySem.Calls

section
variable {M : Model} {A : Around} {E : Value → Shared → Prop} {s : Shared} {env : Env} {f : Value} {pos : Pos}
theorem args1 {e1 : Expr} {Q : Args → Shared → Prop} (h : wpAny M A (eval e1 env) (fun v1 s1 => Q ⟨[v1], []⟩ s1) E s) (he : starEach [e1] env = [(false, eval e1 env)] := by rfl) :
    wpAny M A (evalArgs f true (backTo pos (starEach [e1] env)) []) Q E s := by
  rw [he]
  exact evalArgs_plain (spliced_cons (wpAny_mono h (fun _ _ h₁ => spliced_nil h₁) fun _ _ e => e))
theorem args2 {e1 e2 : Expr} {Q : Args → Shared → Prop} (h : wpAny M A (eval e1 env) (fun v1 s1 => wpAny M A (eval e2 env) (fun v2 s2 => Q ⟨[v1, v2], []⟩ s2) E s1) E s) (he : starEach [e1, e2] env = [(false, eval e1 env), (false, eval e2 env)] := by rfl) :
    wpAny M A (evalArgs f true (backTo pos (starEach [e1, e2] env)) []) Q E s := by
  rw [he]
  exact evalArgs_plain (spliced_cons (wpAny_mono h (fun _ _ h₁ => spliced_cons (wpAny_mono h₁ (fun _ _ h₂ => spliced_nil h₂) fun _ _ e => e)) fun _ _ e => e))
end

section
variable {prog : Program} {w : World} {A : Around} {E : Value → Shared → Prop} {s : Shared}

theorem call_fix {x : Str} {t : Tok} {Q : Value → Shared → Prop} (G : Gd w s.heap) (hroom : A.depth < recursionLimit) (hx : x.cps.size ≤ 1000000)
    (hQ : ∀ h' tk t' y, y.cps.toList = Pl.fixEols x.cps.toList → Keep s.heap h' → Q (.str y t') { s with heap := h', toks := tk }) : wpAny (model prog w) A (call (.ref 67) [.str x t]) Q E s := by
  refine call_fn (binds := [(Str.ofString "data", .str x t)]) (by rfl) G (by kernel_rfl) hroom (by rfl) (by rfl) ?_
  intro h₁ L hL F
  have G₁ : Gd w h₁ := G.keep F.keep
  refine wpAny_execs_cons (wpAny_Return_some ?_)
  refine wpAny_Call_method (T := "re.Pattern") (id := "re.Pattern.sub") rfl rfl rfl Fa.plain_pattern Fa.slot_sub Fa.type_sub ?_
  refine name_g (w := w) G₁ (g_re3 w) ?_
  obtain ⟨o, a, b, e, hc, hd, hf⟩ := (pat3 (s := { s with heap := h₁ }) G₁).obj
  refine ⟨⟨o, e, hc⟩, fun a ha => ⟨o, by cases ha; exact e, hd⟩, ?_⟩
  refine callWith_builtin rfl (args2 ?_)
  refine name_g (w := w) G₁ (g_crlf w) ?_
  refine ld F rfl ?_
  refine sub_ends (pat3 G₁) hx (by decide +kernel) fun h' tk t' y hy hk => ?_
  exact ⟨_, rfl, hQ h' tk t' y hy (Keep.trans F.keep hk)⟩

theorem call_quotedata {x : Str} {t : Tok} {Q : Value → Shared → Prop} (G : Gd w s.heap) (hroom : A.depth < recursionLimit) (hx : x.cps.size ≤ 500000) (hx' : (Pl.fixEols x.cps.toList).length ≤ 1000000)
    (hQ : ∀ h' tk t' y, y.cps.toList = Pl.quote true (Pl.fixEols x.cps.toList) → Keep s.heap h' → Q (.str y t') { s with heap := h', toks := tk }) : wpAny (model prog w) A (call (.ref 53) [.str x t]) Q E s := by
  refine call_fn (binds := [(Str.ofString "data", .str x t)]) (by rfl) G (by kernel_rfl) hroom (by rfl) (by rfl) ?_
  intro h₁ L hL F
  have G₁ : Gd w h₁ := G.keep F.keep
  refine wpAny_execs_cons (wpAny_Return_some ?_)
  refine wpAny_Call_method (T := "re.Pattern") (id := "re.Pattern.sub") rfl rfl rfl Fa.plain_pattern Fa.slot_sub Fa.type_sub ?_
  refine name_g (w := w) G₁ (g_re1 w) ?_
  obtain ⟨o, a, b, e, hc, hd, hf⟩ := (pat1 (s := { s with heap := h₁ }) G₁).obj
  refine ⟨⟨o, e, hc⟩, fun a ha => ⟨o, by cases ha; exact e, hd⟩, ?_⟩
  refine callWith_builtin rfl (args2 ?_)
  refine Constant_str ?_
  refine wpAny_Call_method (T := "re.Pattern") (id := "re.Pattern.sub") rfl rfl rfl Fa.plain_pattern Fa.slot_sub Fa.type_sub ?_
  refine name_g (w := w) G₁ (g_re3 w) ?_
  obtain ⟨o, a, b, e, hc, hd, hf⟩ := (pat3 (s := { s with heap := h₁ }) G₁).obj
  refine ⟨⟨o, e, hc⟩, fun a ha => ⟨o, by cases ha; exact e, hd⟩, ?_⟩
  refine callWith_builtin rfl (args2 ?_)
  refine name_g (w := w) G₁ (g_crlf w) ?_
  refine ld F rfl ?_
  refine sub_ends (pat3 G₁) (by omega) (by decide +kernel) fun h₂ tk₂ t₂ y₂ hy₂ hk₂ => ?_
  have hsz : y₂.cps.size ≤ 1000000 := by rw [← Array.length_toList, hy₂]; exact hx'
  refine sub_dots (pat1 (G₁.keep hk₂)) hsz (by decide +kernel) fun h' tk t' y hy hk => ?_
  exact ⟨_, rfl, hQ h' tk t' y (by rw [hy, hy₂]) (Keep.trans F.keep (Keep.trans hk₂ hk))⟩

theorem call_periods {x : Array UInt8} {t : Tok} {Q : Value → Shared → Prop} (G : Gd w s.heap) (hroom : A.depth < recursionLimit) (hx : x.size ≤ 1000000)
    (hQ : ∀ h' tk t' (y : Array UInt8), y.toList.map (·.toNat) = Pl.quote true (x.toList.map (·.toNat)) → Keep s.heap h' → Q (.bytes y t') { s with heap := h', toks := tk }) : wpAny (model prog w) A (call (.ref 60) [.bytes x t]) Q E s := by
  refine call_fn (binds := [(Str.ofString "bindata", .bytes x t)]) (by rfl) G (by kernel_rfl) hroom (by rfl) (by rfl) ?_
  intro h₁ L hL F
  have G₁ : Gd w h₁ := G.keep F.keep
  refine wpAny_execs_cons (wpAny_Return_some ?_)
  refine wpAny_Call_method (T := "re.Pattern") (id := "re.Pattern.sub") rfl rfl rfl Fa.plain_pattern Fa.slot_sub Fa.type_sub ?_
  refine name_g (w := w) G₁ (g_re2 w) ?_
  obtain ⟨o, a, b, e, hc, hd, hf⟩ := (pat2 (s := { s with heap := h₁ }) G₁).obj
  refine ⟨⟨o, e, hc⟩, fun a ha => ⟨o, by cases ha; exact e, hd⟩, ?_⟩
  refine callWith_builtin rfl (args2 ?_)
  refine Constant_bytes ?_
  refine ld F rfl ?_
  refine sub_dots_bytes (pat2 G₁) hx rfl fun h' tk t' y hy hk => ?_
  exact ⟨_, rfl, hQ h' tk t' y hy (Keep.trans F.keep hk)⟩
end
end Mine

end

section -- F2
set_option maxRecDepth 100000
namespace Mine
open PySem PySem.W PyProof.Rows PySem.Calls

section
variable (w : World)
theorem b_bytes : nsIn (KK w) mainGlobals "bytes" = some none := by kernel_rfl
theorem b_ord : nsIn (KK w) mainGlobals "ord" = some none := by kernel_rfl
theorem b_chr : nsIn (KK w) mainGlobals "chr" = some none := by kernel_rfl
theorem b_len : nsIn (KK w) mainGlobals "len" = some none := by kernel_rfl
theorem b_range : nsIn (KK w) mainGlobals "range" = some none := by kernel_rfl
theorem b_zip : nsIn (KK w) mainGlobals "zip" = some none := by kernel_rfl
theorem b_bytearray : nsIn (KK w) mainGlobals "bytearray" = some none := by kernel_rfl
end
theorem v_bytes : bootBuiltins "bytes" = some (.type "bytes") := by kernel_rfl
theorem v_ord : bootBuiltins "ord" = some (.builtin "ord") := by kernel_rfl
theorem v_chr : bootBuiltins "chr" = some (.builtin "chr") := by kernel_rfl
theorem v_len : bootBuiltins "len" = some (.builtin "len") := by kernel_rfl
theorem v_range : bootBuiltins "range" = some (.type "range") := by kernel_rfl
theorem v_zip : bootBuiltins "zip" = some (.type "zip") := by kernel_rfl
theorem v_bytearray : bootBuiltins "bytearray" = some (.type "bytearray") := by kernel_rfl

theorem keep_push_but {h h3 : Heap} {o : Obj} (hk : ∀ b ob, b ∉ [h.objs.size] → (h.push o).get? b = some ob → h3.get? b = some ob) : Keep h h3 :=
  fun b ob e => hk b ob (fun hm => absurd (Heap.lt_size e) (by rw [List.mem_singleton.mp hm]; exact Nat.lt_irrefl _)) (Heap.get?_push_of_some _ e)

/-- tests that are not there -/
theorem no_tests {M : Model} {A : Around} {E : Value → Shared → Prop} {s : Shared} {cenv : Env} {Q : Bool → Shared → Prop} (h : Q true s) :
    wpAny M A (forIn ([] : List Expr) true fun c r => if r = true then do let ok ← isTrue c cenv (eval c cenv); pure (ForInStep.yield ok) else pure (ForInStep.yield r)) Q E s := by
  rw [List.forIn_nil]; exact wpAny_pure h

section
variable {prog : Program} {w : World} {A : Around} {E : Value → Shared → Prop} {s : Shared}

theorem octets_ints {x : Str} : ∀ {vs ys : List Value} (k : Nat), (∀ j v, vs[j]? = some v → SignAt x (k + j) v) → Paired (fun v y => ∃ c u u', v = .str ⟨#[c]⟩ u ∧ y = .int (c : Nat) u') vs ys →
    IntsAre ys (((x.cps.toList.drop k).take vs.length).map fun (c : Nat) => (c : Int)) := by
  intro vs ys k h hp
  induction hp generalizing k with
  | nil => simpa using IntsAre.nil
  | cons hf _ ih =>
    obtain ⟨c, u, u', rfl, rfl⟩ := hf
    obtain ⟨c', _, hc, he⟩ := h 0 _ rfl
    have e1 : c' = c := by injection he with e; injection e with e; simpa using e.symm
    subst e1
    have hlt : k < x.cps.size := by
      simp only [Nat.add_zero] at hc
      exact (Array.getElem?_eq_some_iff.mp hc).1
    have e2 : x.cps.toList.drop k = c' :: x.cps.toList.drop (k + 1) := by
      rw [List.drop_eq_getElem_cons (by simpa using hlt)]
      congr 1
      simp only [Nat.add_zero] at hc
      have := (Array.getElem?_eq_some_iff.mp hc).2
      simpa using this
    rw [e2, List.length_cons, List.take_succ_cons, List.map_cons]
    exact .cons _ _ (ih (k + 1) fun j v hj => by
      have := h (j + 1) v (by simpa using hj)
      rwa [show k + (j + 1) = k + 1 + j by omega] at this)

theorem call_octets {x : Str} {t : Tok} {Q : Value → Shared → Prop} (G : Gd w s.heap) (hA : A.handled = none) (hroom : A.depth < recursionLimit) (hx : x.cps.size ≤ 1000000) (hb : ∀ c ∈ x.cps.toList, c < 256)
    (hQ : ∀ h' tk t' (y : Array UInt8), y.toList.map (·.toNat) = x.cps.toList → Keep s.heap h' → Q (.bytes y t') { s with heap := h', toks := tk }) : wpAny (model prog w) A (call (.ref 84) [.str x t]) Q E s := by
  have e2 : sizeLine = 16777216 := by decide
  refine call_fn (binds := [(Str.ofString "text", .str x t)]) (by rfl) G (by kernel_rfl) hroom (by rfl) (by rfl) ?_
  intro h₁ L hL F
  have G₁ : Gd w h₁ := G.keep F.keep
  refine wpAny_execs_cons (wpAny_Return_some ?_)
  refine wpAny_Call_ofName ?_
  refine name_b (w := w) G₁ (b_bytes w) v_bytes ?_
  refine PySem.callWith_type rfl (args1 ?_)
  refine wpAny_ListComp_walk (fun _ => true) (fun v y => ∃ c u u', v = .str ⟨#[c]⟩ u ∧ y = .int (c : Nat) u') (by decide) (by decide) rfl (by decide) rfl ?_
  refine ld F rfl ?_
  refine wpAny_pyIter_str fun o St W hSt => ?_
  refine ⟨_, _, _, _, _, _, rfl, W _ hA, by omega, hSt, ?_, ⟨?_, ?_⟩, ?_⟩
  · intro b hb
    rw [List.mem_singleton.mp hb, Heap.size_push]; exact Nat.lt_succ_self _
  · intro C i v s₃ m₃ E' hP hn hm hk htk
    exact no_tests ⟨rfl, s₃.heap, s₃.toks, rfl, fun _ _ e => e⟩
  · intro C i v s₃ m₃ E' hP _ hn hm hk htk
    obtain ⟨c, u, hc, rfl⟩ := hP
    have k₃ : Keep h₁ s₃.heap := keep_push_but hk
    refine wpAny_Call_ofName ?_
    refine name_b (w := w) (G₁.keep k₃) (b_ord w) v_ord ?_
    refine callWith_builtin rfl (args1 ?_)
    refine wpAny_Name (wpAny_loadName_local rfl rfl hn hm ?_)
    exact P.ord_of_char ⟨⟨c, u, _, rfl, rfl⟩, s₃.heap, s₃.toks + 1, rfl, fun _ _ e => e⟩
  · intro D h' tk ys vs hD hl hpl hlen hP hF hk
    have k' : Keep h₁ h' := keep_push_but hk
    rw [List.filter_eq_self.mpr (fun _ _ => rfl)] at hF
    have hi := octets_ints (x := x) 0 (fun j v hj => by simpa using hP j v hj) hF
    have hns : (((x.cps.toList.drop 0).take vs.length).map fun (c : Nat) => (c : Int)) = x.cps.toList.map fun (c : Nat) => (c : Int) := by
      rw [hlen, List.drop_zero, List.take_of_length_le (by simp)]
    rw [hns] at hi
    refine call_bytes_ints (vs := ys.toList) (by simpa using hl) hi ?_ ?_ hA fun h₂ t₂ k₂ hk₂ => ?_
    · intro n hn
      obtain ⟨c, hc, rfl⟩ := List.mem_map.mp hn
      have := hb c hc
      omega
    · rw [hi.length]; simp; omega
    · refine ⟨_, rfl, hQ h₂ k₂ t₂ _ ?_ (Keep.trans F.keep (Keep.trans k' hk₂))⟩
      unfold byteArr
      rw [List.map_map, List.toList_toArray, List.map_map]
      have : x.cps.toList.map (((fun x => x.toNat) ∘ (fun n => n.toNat.toUInt8)) ∘ fun (c : Nat) => (c : Int)) = x.cps.toList.map id := by
        refine List.map_congr_left fun c hc => ?_
        have := hb c hc
        simp [Nat.mod_eq_of_lt this]
      simpa [Function.comp_def] using this

theorem text_strs {b : Array UInt8} : ∀ {vs ys : List Value} (k : Nat), (∀ j v, vs[j]? = some v → ∃ c u, b[k + j]? = some c ∧ v = .int (c.toNat : Int) u) → Paired (fun v y => ∃ (c : Nat) (u u' : Tok), v = .int (c : Int) u ∧ y = .str ⟨#[c]⟩ u') vs ys →
    ∃ ps : List (Str × Tok), ys = strValues ps ∧ textOf ps = ((b.toList.drop k).take vs.length).map (·.toNat) ∧ lens ps = vs.length := by
  intro vs ys k h hp
  induction hp generalizing k with
  | nil => exact ⟨[], rfl, by simp [textOf], rfl⟩
  | cons hf _ ih =>
    obtain ⟨c, u, u', rfl, rfl⟩ := hf
    obtain ⟨c', _, hc, he⟩ := h 0 _ rfl
    have e1 : c = c'.toNat := by injection he with e; omega
    have hlt : k < b.size := by
      simp only [Nat.add_zero] at hc
      exact (Array.getElem?_eq_some_iff.mp hc).1
    have e2 : b.toList.drop k = c' :: b.toList.drop (k + 1) := by
      rw [List.drop_eq_getElem_cons (by simpa using hlt)]
      congr 1
      simp only [Nat.add_zero] at hc
      have := (Array.getElem?_eq_some_iff.mp hc).2
      simpa using this
    obtain ⟨ps, q1, q2, q3⟩ := ih (k + 1) fun j v hj => by
      have := h (j + 1) v (by simpa using hj)
      rwa [show k + (j + 1) = k + 1 + j by omega] at this
    refine ⟨(⟨#[c]⟩, u') :: ps, by rw [q1]; rfl, ?_, ?_⟩
    · rw [e2, List.length_cons, List.take_succ_cons, List.map_cons, ← q2, ← e1]; rfl
    · show 1 + lens ps = _
      rw [q3, List.length_cons]; omega

theorem call_text {x : Array UInt8} {t : Tok} {Q : Value → Shared → Prop} (G : Gd w s.heap) (hA : A.handled = none) (hroom : A.depth < recursionLimit) (hx : x.size ≤ 1000000)
    (hQ : ∀ h' tk t' y, y.cps.toList = x.toList.map (·.toNat) → Keep s.heap h' → Q (.str y t') { s with heap := h', toks := tk }) : wpAny (model prog w) A (call (.ref 89) [.bytes x t]) Q E s := by
  have e2 : sizeLine = 16777216 := by decide
  refine call_fn (binds := [(Str.ofString "octets", .bytes x t)]) (by rfl) G (by kernel_rfl) hroom (by rfl) (by rfl) ?_
  intro h₁ L hL F
  have G₁ : Gd w h₁ := G.keep F.keep
  refine wpAny_execs_cons (wpAny_Return_some ?_)
  refine wpAny_Call_method (T := "str") (id := "str.join") rfl rfl rfl PySem.F.plainAttrs_str PySem.F.slot_str_join PySem.F.type_str_join ?_
  refine Constant_str ?_
  refine ⟨typeIs_str _ _ _, (fun a ha => by cases ha), ?_⟩
  refine callWith_builtin rfl (args1 ?_)
  refine wpAny_ListComp_walk (fun _ => true) (fun v y => ∃ (c : Nat) (u u' : Tok), v = .int (c : Int) u ∧ y = .str ⟨#[c]⟩ u') (by decide) (by decide) rfl (by decide) rfl ?_
  refine ld F rfl ?_
  refine KBw.pyIter_bytes ?_
  refine ⟨_, _, _, x.size, _, fun i h => KBw.IsBytesIter h h₁.objs.size x t i, rfl, KBw.walks (A := A.deeper _) hA h₁.objs.size x t, (by omega), ⟨_, Heap.get?_push_size _ rfl, rfl, rfl⟩, ?_, ⟨?_, ?_⟩, ?_⟩
  · intro b hb
    rw [List.mem_singleton.mp hb, Heap.size_push]; exact Nat.lt_succ_self _
  · intro C i v s₃ m₃ E' hP hn hm hk htk
    exact no_tests ⟨rfl, s₃.heap, s₃.toks, rfl, fun _ _ e => e⟩
  · intro C i v s₃ m₃ E' hP _ hn hm hk htk
    obtain ⟨c, u, hc, rfl⟩ := hP
    have k₃ : Keep h₁ s₃.heap := keep_push_but hk
    refine wpAny_Call_ofName ?_
    refine name_b (w := w) (G₁.keep k₃) (b_chr w) v_chr ?_
    refine callWith_builtin rfl (args1 ?_)
    refine wpAny_Name (wpAny_loadName_local rfl rfl hn hm ?_)
    have hc2 := c.toNat_lt
    refine chr_of_range (by omega) (by omega) ⟨⟨c.toNat, u, _, rfl, by simp; rfl⟩, s₃.heap, s₃.toks + 1, rfl, fun _ _ e => e⟩
  · intro D h' tk ys vs hD hl hpl hlen hP hF hk
    have k' : Keep h₁ h' := keep_push_but hk
    rw [List.filter_eq_self.mpr (fun _ _ => rfl)] at hF
    obtain ⟨ps, q1, q2, q3⟩ := text_strs (b := x) 0 (fun j v hj => by simpa using hP j v hj) hF
    have q2' : textOf ps = x.toList.map (·.toNat) := by rw [q2, hlen, List.drop_zero, List.take_of_length_le (by simp)]
    refine join_pieces (ps := ps) (by decide +kernel) (by rw [← q1]; simpa using hl) (by omega) fun y t' k hy => ?_
    exact ⟨_, rfl, hQ h' k t' y (by rw [hy, q2']) (Keep.trans F.keep k')⟩
end
end Mine

end

section -- C2
set_option maxRecDepth 100000
namespace Mine
open PySem PySem.W PyProof.Rows PySem.Calls
open PySem.Sem (wp)

section
variable {M : Model} {A : Around} {s : Shared} {env : Env} {f : Value} {pos : Pos}
theorem wpc_spliced_cons {x : Sem Value} {rest : List (Bool × Sem Value)} {Q : List Value → Shared → Prop}
    (h : wpc M A x (fun v s₁ => wpc M A (spliced rest) (fun vs s₂ => Q (v :: vs) s₂) s₁) s) : wpc M A (spliced ((false, x) :: rest)) Q s := by
  rw [spliced]
  refine wpc_bind (wpc_mono h fun v s₁ h₁ => ?_)
  simp only [Bool.false_eq_true, if_false]
  exact wpc_bind (wpc_pure (wpc_bind (wpc_holding (wpc_mono h₁ fun vs s₂ h₂ => wpc_pure h₂))))
theorem wpc_evalArgs {x : Sem Value} {rest : List (Bool × Sem Value)} {Q : Args → Shared → Prop}
    (h : wpc M A (spliced ((false, x) :: rest)) (fun vs s' => Q ⟨vs, []⟩ s') s) : wpc M A (evalArgs f true ((false, x) :: rest) []) Q s := by
  unfold evalArgs
  show wpc M A (spliced ((false, x) :: rest) >>= _) Q s
  refine wpc_bind (wpc_mono h fun vs s' h' => ?_)
  refine wpc_holding ?_
  exact wpc_bind (wpc_pure (wpc_bind (wpc_pure (wpc_pure h'))))
theorem wpc_args1 {e1 : Expr} {Q : Args → Shared → Prop} (h : wpc M A (eval e1 env) (fun v1 s1 => Q ⟨[v1], []⟩ s1) s) (he : starEach [e1] env = [(false, eval e1 env)] := by rfl) :
    wpc M A (evalArgs f true (backTo pos (starEach [e1] env)) []) Q s := by
  rw [he]
  exact wpc_evalArgs (wpc_spliced_cons (wpc_mono h fun _ _ h₁ => wpc_any (spliced_nil h₁)))
theorem wpc_callWith_type {T : String} {first : List Value} {args : List (Bool × Sem Value)} {Q : Value → Shared → Prop} (hplain : args.any (·.1) = false)
    (h : wpc M A (evalArgs (.type T) true args []) (fun a s₁ => wpc M A (call (.type T) (first ++ a.pos) a.kw) Q s₁) s) : wpc M A (callWith pos (.type T) first args []) Q s := by
  unfold callWith
  refine wpc_bind (wpc_holding (wpc_mono h fun a s₁ h₁ => wpc_bind (wpc_standAt ?_)))
  simp only [hplain, List.any_nil, Bool.or_false]
  refine wpc_bind (wpc_pure ?_)
  exact wpc_bind (wpc_mono h₁ fun r s₂ hr => wpc_bind (wpc_holding (wpc_any (wpAny_point (show wpc _ _ _ _ _ from wpc_pure hr)))))
theorem wpc_callWith_fn {a : Addr} {o : Obj} {fd : FuncData} {args : List (Bool × Sem Value)} {Q : Value → Shared → Prop} (hplain : args.any (·.1) = false) (hn : ¬ args.length + 2 * ([] : List (Option Str × Sem Value)).length > 30)
    (h : wpc M A (evalArgs (.ref a) true args []) (fun x s₁ => (s₁.heap.get? a = some o ∧ o.data = .func fd) ∧ wpc M A (call (.ref a) x.pos x.kw) Q s₁) s) : wpc M A (callWith pos (.ref a) [] args []) Q s := by
  unfold callWith
  refine wpc_bind (wpc_holding (wpc_mono h fun x s₁ h₁ => wpc_bind (wpc_standAt ?_)))
  simp only [hplain, List.any_nil, Bool.or_false]
  refine wpc_bind (m := keeperOf (.ref a)) ?_
  unfold keeperOf
  refine wpc_bind (wpc_any (wpAny_load h₁.1.1 (show wpc _ _ _ _ _ from ?_)))
  rw [h₁.1.2]
  refine wpc_pure ?_
  simp only [hn, if_false, List.nil_append]
  exact wpc_bind (wpc_keep (wpc_mono h₁.2 fun r s₂ hr => wpc_bind (wpc_holding (wpc_any (wpAny_point (show wpc _ _ _ _ _ from wpc_pure hr))))))
theorem wpc_Call_ofName {x : Str} {np pos : Pos} {args : List Expr} {Q : Value → Shared → Prop}
    (h : wpAny M A (eval (.Name x np) env) (fun f s₁ => wpc M A (callWith pos f [] (backTo pos (starEach args env)) []) Q s₁) NoE s) :
    wpc M A (eval (.Call (.Name x np) args [] pos) env) Q s := by
  show wpc M A (do callWith pos (← eval (.Name x np) env) [] (backTo pos (starEach args env)) (backToKw pos (keywordEach [] env))) Q s
  exact wpc_bind (wpc_mono (wpc_any h) fun f s₁ h₁ => h₁)
end

section
variable {prog : Program} {w : World} {A : Around} {s : Shared}
theorem callc_fn {Q : Value → Shared → Prop} {f : Addr} {vals : List Value} {binds : List (Str × Value)} {name qual : Str} {params : Arguments} {body : List Stmt} {scope : Scope} {dV kV doc pm cdv ct oc : Value} {an od : Option Addr} {osl : Array (Option Value)}
    (ho : (KK w).lookup f = some ⟨oc, od, .func (fnOf name qual params body scope dV kV doc pm an cdv ct), osl⟩) (G : Gd w s.heap) (hcd : codeIn (KK w) cdv qual = true) (hroom : A.depth < recursionLimit)
    (hbind : bindArgs (fnOf name qual params body scope dV kV doc pm an cdv ct) ⟨vals, []⟩ = pure binds) (hloc : (binds.all fun x => decide (scope.names.lookup x.1 = some .local)) = true)
    (h : ∀ h₁ L, L = s.heap.objs.size → Fr s.heap L h₁ (fun x => binds.reverse.lookup x) →
      wpc (model prog w) (A.deeper (envOf qual scope L f cdv)) (execs body (envOf qual scope L f cdv)) (fun fl s' => ∃ v, fl = .ret v ∧ Q v s') { s with heap := h₁, toks := s.toks + binds.length })
    (hcell : ∀ x ∈ scope.names, x.2 ≠ .cell := by decide) (hco : scope.isCoroutine = false := by rfl) (hgen : scope.isGenerator = false := by rfl) (hk : scope.kind = .function := by rfl) :
    wpc (model prog w) A (call (.ref f) vals) Q s := by
  refine wpc_call (codec_function (fd := fnOf name qual params body scope dV kV doc pm an cdv ct) (body := body) (binds := binds) hroom (G.K _ _ ho) rfl rfl (codeRec_of G.K hcd) G.lim hbind hcell (locs hloc) (fun h₁ hns hk₁ => ?_) hco hgen hk)
  refine wpc_mono (h h₁ _ rfl ⟨hns, hk₁, Nat.le_refl _⟩) fun fl s' hq => ?_
  obtain ⟨v, rfl, hv⟩ := hq
  exact ⟨v, rfl, hv⟩
end
end Mine

end

section -- FW
set_option maxRecDepth 100000
namespace Mine
open PySem PySem.W PyProof.Rows PySem.Calls

section
variable {M : Model} {A : Around} {E : Value → Shared → Prop} {s : Shared} {env : Env} {f : Value} {pos : Pos}
theorem args3 {e1 e2 e3 : Expr} {Q : Args → Shared → Prop} (h : wpAny M A (eval e1 env) (fun v1 s1 => wpAny M A (eval e2 env) (fun v2 s2 => wpAny M A (eval e3 env) (fun v3 s3 => Q ⟨[v1, v2, v3], []⟩ s3) E s2) E s1) E s)
    (he : starEach [e1, e2, e3] env = [(false, eval e1 env), (false, eval e2 env), (false, eval e3 env)] := by rfl) :
    wpAny M A (evalArgs f true (backTo pos (starEach [e1, e2, e3] env)) []) Q E s := by
  rw [he]
  exact evalArgs_plain (spliced_cons (wpAny_mono h (fun _ _ h₁ => spliced_cons (wpAny_mono h₁ (fun _ _ h₂ => spliced_cons (wpAny_mono h₂ (fun _ _ h₃ => spliced_nil h₃) fun _ _ e => e)) fun _ _ e => e)) fun _ _ e => e))
end

section
variable {prog : Program} {w : World} {A : Around} {E : Value → Shared → Prop} {s : Shared} {env : Env}

/-- a for over an iterator that walks, by what holds of the heap ahead of each turn -/
theorem for_walks {x : Str} {px : Pos} {body : List Stmt} {I : Addr} {fp wr : List Addr} {n : Nat} {P : Nat → Value → Prop} {St : Nat → Heap → Prop} {R : Result → Shared → Prop} (W : Walks prog w A I fp wr n P St)
    (J : Nat → Heap → Prop) (hJk : ∀ i h h', J i h → (∀ b o, b ∉ wr → h.get? b = some o → h'.get? b = some o) → J i h') (hst : St 0 s.heap) (hJ : J 0 s.heap)
    (turn : ∀ i v h tk, i < n → P i v → St (i + 1) h → J i h → wpAny (model prog w) A (storeName env x v) (fun _ s₂ => wpAny (model prog w) A (execs body env) (fun f s₃ => f = .next ∧ ∃ h' tk', s₃ = { s with heap := h', toks := tk' } ∧ J (i + 1) h' ∧ St (i + 1) h') NoE s₂) NoE { s with heap := h, toks := tk })
    (done : ∀ h tk, J n h → R (.ok .next) { s with heap := h, toks := tk }) :
    codeAny (model prog w) A (.forLoop (.Name x px) (.ref I) body [] env) R s := by
  refine codeAny_forLoop (fun k s' => ∃ i h tk, i ≤ n ∧ k = n - i ∧ s' = { s with heap := h, toks := tk } ∧ J i h ∧ St i h) ?_ n ⟨0, s.heap, s.toks, Nat.zero_le _, rfl, rfl, hJ, hst⟩
  rintro k s' ⟨i, h, tk, hi, rfl, rfl, hJi, hSt⟩
  by_cases hlt : i < n
  · refine W.item i _ _ _ hlt hSt fun v h₁ tk₁ hP hSt₁ hk₁ => ?_
    refine wpAny_assign_Name (wpAny_mono (turn i v h₁ tk₁ hlt hP hSt₁ (hJk i h h₁ hJi hk₁)) (fun _ s₂ h₂ => wpAny_mono h₂ (fun f s₃ h₃ => ?_) fun _ _ x => x.elim) fun _ _ x => x.elim)
    obtain ⟨rfl, h', tk', rfl, hJ', hSt'⟩ := h₃
    exact ⟨n - (i + 1), by omega, i + 1, h', tk', by omega, rfl, rfl, hJ', hSt'⟩
  · have hin : i = n := by omega
    subst hin
    refine W.done _ _ _ hSt fun h₁ tk₁ hk₁ => ?_
    exact wpAny_execs_nil (done h₁ tk₁ (hJk i h h₁ hJi hk₁))

theorem For_walks {x : Str} {px pos : Pos} {iter : Expr} {body : List Stmt} {Q : Flow → Shared → Prop}
    (h : wpAny (model prog w) A (eval iter env) (fun xv s₁ => wpAny (model prog w) A (pyIter xv) (fun it s₂ => ∃ (I : Addr) (fp wr : List Addr) (n : Nat) (P : Nat → Value → Prop) (St : Nat → Heap → Prop) (J : Nat → Heap → Prop), it = .ref I ∧ Walks prog w A I fp wr n P St ∧ (∀ i h h', J i h → (∀ b o, b ∉ wr → h.get? b = some o → h'.get? b = some o) → J i h') ∧ St 0 s₂.heap ∧ J 0 s₂.heap ∧
      (∀ i v h tk, i < n → P i v → St (i + 1) h → J i h → wpAny (model prog w) A (storeName env x v) (fun _ s₃ => wpAny (model prog w) A (execs body env) (fun f s₄ => f = .next ∧ ∃ h' tk', s₄ = { s₂ with heap := h', toks := tk' } ∧ J (i + 1) h' ∧ St (i + 1) h') NoE s₃) NoE { s₂ with heap := h, toks := tk }) ∧
      (∀ h tk, J n h → Q .next { s₂ with heap := h, toks := tk })) NoE s₁) NoE s)
    (hs : ∀ x, foldedSetIterable iter env x = pure x := by intro _; rfl) :
    wpAny (model prog w) A (exec (.For (.Name x px) iter body [] pos) env) Q NoE s := by
  refine wpAny_For (wpAny_mono h (fun xv s₁ h₁ => wpAny_mono h₁ (fun it s₂ h₂ => ?_) fun _ _ x => x.elim) fun _ _ x => x.elim) hs
  obtain ⟨I, fp, wr, n, P, St, J, rfl, W, hJk, hst, hJ, turn, done⟩ := h₂
  refine codeAny_mono (for_walks (R := fun r s' => ∃ f, r = .ok f ∧ Q f s') W J hJk hst hJ turn fun h tk hj => ⟨_, rfl, done h tk hj⟩) fun r s' hr => ?_
  obtain ⟨f, rfl, hq⟩ := hr
  exact hq

theorem rangeSize_one {n : Int} (h : 0 ≤ n) : Builtin.Range.rangeSize 0 n 1 = n := by
  unfold Builtin.Range.rangeSize
  rw [if_pos (by decide)]
  split <;> omega
theorem range_small {n : Int} (h : 0 ≤ n) (h' : n ≤ 1000000) : Builtin.Range.small 0 n 1 = true := by
  unfold Builtin.Range.small Builtin.Range.rangeFitsLong
  rw [rangeSize_one h]
  simp; omega
theorem rangeSize_whole {n : Int} (h : 0 < n) : Builtin.Range.rangeSize 0 n n = 1 := by
  unfold Builtin.Range.rangeSize
  rw [if_pos h, if_pos h, Int.ediv_eq_zero_of_lt (by omega) (by omega)]; rfl
theorem range_small_whole {n : Int} (h : 0 < n) (h' : n ≤ 1000000) : Builtin.Range.small 0 n n = true := by
  unfold Builtin.Range.small Builtin.Range.rangeFitsLong
  rw [rangeSize_whole h]
  simp [h]; omega
end

/-- the bytes that the inner loop has laid -/
def laid (x : Array UInt8) (j : Nat) : Array UInt8 := (List.replicate (x.size - j) 0 ++ (x.toList.take j).reverse).toArray
theorem laid_size (x : Array UInt8) (j : Nat) (h : j ≤ x.size) : (laid x j).size = x.size := by
  simp [laid]; omega
theorem laid_zero (x : Array UInt8) : laid x 0 = Array.replicate x.size 0 := by simp [laid]
theorem laid_all (x : Array UInt8) : (laid x x.size).toList = x.toList.reverse := by
  simp [laid, List.take_of_length_le]
theorem laid_next (x : Array UInt8) (j : Nat) (h : j < x.size) : (laid x j).setIfInBounds (x.size - 1 - j) (x.toList.getD j 0) = laid x (j + 1) := by
  have h' : j < x.toList.length := by simpa using h
  have e1 : x.size - j = (x.size - (j + 1)) + 1 := by omega
  have e2 : x.toList.take (j + 1) = x.toList.take j ++ [x.toList.getD j 0] := by
    rw [List.take_add_one, List.getD_eq_getElem?_getD, List.getElem?_eq_getElem h']; rfl
  unfold laid
  rw [e2, List.reverse_append, e1, List.replicate_succ', List.append_assoc]
  apply Array.ext'
  simp only [Array.toList_setIfInBounds, List.reverse_singleton, List.singleton_append]
  rw [List.set_append_right _ _ (by simp; omega)]
  simp only [List.length_replicate]
  rw [show x.size - 1 - j - (x.size - (j + 1)) = 0 by omega]
  rfl
end Mine

end

section -- F3
set_option maxRecDepth 100000
namespace Mine
open PySem PySem.W PyProof.Rows PySem.Calls

theorem frOff {h₀ h h' : Heap} {L : Addr} {m : Str → Option Value} {wr : List Addr} (F : Fr h₀ L h m) (k : ∀ b o, b ∉ wr → h.get? b = some o → h'.get? b = some o) (hL : L ∉ wr) (h0 : ∀ b ∈ wr, h₀.get? b = none) : Fr h₀ L h' m :=
  ⟨F.ns.at' (fun o e => k L o hL e), fun b o e => k b o (fun hm => by rw [h0 b hm] at e; cases e) (F.keep b o e), F.above⟩
theorem frKeep {h₀ h h' : Heap} {L : Addr} {m : Str → Option Value} (F : Fr h₀ L h m) (k : Keep h h') : Fr h₀ L h' m := ⟨F.ns.keeps k, fun b o e => k b o (F.keep b o e), F.above⟩
theorem fresh_none {h₀ h : Heap} (k : Keep h₀ h) {a : Addr} (ha : h.objs.size ≤ a) : h₀.get? a = none := by
  cases e : h₀.get? a with
  | none => rfl
  | some o => exact absurd (Heap.lt_size (k a o e)) (Nat.not_lt.mpr ha)
theorem frL {h₀ h : Heap} {L : Addr} {m : Str → Option Value} (F : Fr h₀ L h m) : L < h.objs.size := F.ns.lt

theorem sto {M : Model} {A : Around} {E : Value → Shared → Prop} {s : Shared} {env : Env} {h₀ : Heap} {m : Str → Option Value} {x : Str} {v : Value} {Q : Unit → Shared → Prop} (F : Fr h₀ env.locals s.heap m)
    (h : ∀ h', Fr h₀ env.locals h' (fun y => if y = x then some v else m y) → KeepBut env.locals s.heap h' → Q () { s with heap := h', toks := s.toks + 1 })
    (hl : env.kindOf x = some .local := by rfl) (hp : (env.scope.kind == .class || (env.scope.kind == .module && env.locals != env.globals)) = false := by rfl) :
    wpAny M A (storeName env x v) Q E s :=
  wpAny_storeName_local hl F.ns (fun h' hn hs => h h' (F.set hn hs) fun b o hb e => hs.extBut b o hb e) hp

theorem oth {m : Str → Option Value} {x y : Str} {v : Value} {r : Option Value} (h : m y = r) (hne : y ≠ x := by decide) : (if y = x then some v else m y) = r := by rw [if_neg hne]; exact h

/-- what holds in _byteswap's frame -/
def BS (h₀ : Heap) (L ba : Addr) (x : Array UInt8) (t u : Tok) (n : Int) (i : Option Int) (b : Array UInt8) (h : Heap) : Prop :=
  (∃ m, Fr h₀ L h m ∧ m "data" = some (.bytes x t) ∧ m "width" = some (.int n u) ∧ m "swapped_data" = some (.ref ba) ∧ ∀ k, i = some k → ∃ ti, m "i" = some (.int k ti)) ∧ h.get? ba = some (baObj b)
theorem BS.off {h₀ h h' : Heap} {L ba : Addr} {x b : Array UInt8} {t u : Tok} {n : Int} {i : Option Int} {wr : List Addr} (S : BS h₀ L ba x t u n i b h) (k : ∀ c o, c ∉ wr → h.get? c = some o → h'.get? c = some o) (hL : L ∉ wr) (hb : ba ∉ wr) (h0 : ∀ c ∈ wr, h₀.get? c = none) : BS h₀ L ba x t u n i b h' :=
  let ⟨⟨m, F, r⟩, e⟩ := S
  ⟨⟨m, frOff F k hL h0, r⟩, k _ _ hb e⟩

section
variable {prog : Program} {w : World} {A : Around} {s : Shared}

theorem call_byteswap {x : Array UInt8} {t u : Tok} {n : Int} {Q : Value → Shared → Prop} (G : Gd w s.heap) (hA : A.handled = none) (hg : A.guards = some []) (hroom : A.depth < recursionLimit) (hx : x.size ≤ 1000000) (hx0 : 0 < x.size) (hn : n = x.size)
    (hQ : ∀ h' tk t' (y : Array UInt8), y.toList = x.toList.reverse → Keep s.heap h' → Q (.bytes y t') { s with heap := h', toks := tk }) : wpc (model prog w) A (call (.ref 74) [.bytes x t, .int n u]) Q s := by
  have e2 : sizeLine = 16777216 := by decide
  have hn0 : 0 < n := by omega
  have hn1 : n ≤ 1000000 := by omega
  refine callc_fn (binds := [(Str.ofString "data", .bytes x t), (Str.ofString "width", .int n u)]) (by rfl) G (by kernel_rfl) hroom (by rfl) (by rfl) ?_
  intro h₁ L hL F
  have G₁ : Gd w h₁ := G.keep F.keep
  refine wpc_execs_cons (wpc_Assign_Name (wpc_Call_ofName ?_))
  refine name_b (w := w) G₁ (b_bytearray w) v_bytearray ?_
  refine wpc_callWith_type rfl (wpc_any (args1 ?_))
  refine wpAny_Call_ofName ?_
  refine name_b (w := w) G₁ (b_len w) v_len ?_
  refine callWith_builtin rfl (args1 ?_)
  refine ld F rfl ?_
  refine len_bytes (by omega) ?_
  refine call_bytearray hg hx fun h₂ e₂ k₂ => ?_
  dsimp only at e₂ k₂ ⊢
  have hLb : L ≠ h₁.objs.size := Nat.ne_of_lt (frL F)
  have hb0 : s.heap.get? h₁.objs.size = none := fresh_none F.keep (Nat.le_refl _)
  generalize h₁.objs.size = ba at e₂ hLb hb0 ⊢
  refine sto (frKeep F k₂) fun h₃ F₃ K₃ => wpc_any ?_
  have S₃ : BS s.heap L ba x t u n none (laid x 0) h₃ := ⟨⟨_, F₃, rfl, rfl, rfl, fun k hk => nomatch hk⟩, by rw [laid_zero]; exact K₃ _ _ (Ne.symm hLb) e₂⟩
  have hL0 : s.heap.get? L = none := by rw [hL]; exact fresh_none .refl (Nat.le_refl _)
  clear F₃ K₃ k₂ e₂ F G₁
  refine wpAny_execs_cons (For_walks ?_)
  obtain ⟨⟨m₃, F₃, d1, d2, d3, d4⟩, d5⟩ := id S₃
  have G₃ : Gd w h₃ := G.keep F₃.keep
  refine wpAny_Call_ofName ?_
  refine name_b (w := w) G₃ (b_range w) v_range ?_
  refine PySem.callWith_type rfl (args3 ?_)
  refine wpAny_Constant_int ?_
  refine wpAny_Call_ofName ?_
  refine name_b (w := w) G₃ (b_len w) v_len ?_
  refine callWith_builtin rfl (args1 ?_)
  refine ld F₃ d1 ?_
  refine len_bytes (by omega) ?_
  rw [← hn]
  refine ld F₃ d2 ?_
  refine call_range_3 (by omega) ?_ (.inl (PyProof.noPylong_small (by omega)))
  dsimp only
  refine wpAny_pyIter_range (IsRange.new ..) (range_small_whole (by omega) (by omega)) ?_
  rw [rangeSize_whole (by omega)]
  dsimp only
  generalize hH : (h₃.push { cls := .type "range", data := .fields _ }) = H
  have kH : Keep h₃ H := by rw [← hH]; exact Keep.push _
  have kI : Keep H (H.push { cls := .type "range_iterator", data := .fields #[rawInt 0, rawInt 1, rawInt n] }) := Keep.push _
  have hIL : L ≠ H.objs.size := Nat.ne_of_lt (frL (frKeep F₃ kH))
  have hIb : ba ≠ H.objs.size := Nat.ne_of_lt (Heap.lt_size (kH _ _ d5))
  have hI0 : s.heap.get? H.objs.size = none := fresh_none (Keep.trans F₃.keep kH) (Nat.le_refl _)
  have St0 : IsRangeIter (H.push { cls := .type "range_iterator", data := .fields #[rawInt 0, rawInt 1, rawInt n] }) H.objs.size (0 + ((0 : Nat) : Int) * n) (((1 : Nat) : Int) - ((0 : Nat) : Int)) n := by
    simp only [Int.ofNat_zero, Int.zero_mul, Int.add_zero, Int.sub_zero]
    exact Heap.get?_push_size _ rfl
  have S₄ := (S₃.off (wr := []) (fun b o _ e => kH b o e) (by simp) (by simp) (by simp)).off (wr := []) (fun b o _ e => kI b o e) (by simp) (by simp) (by simp)
  generalize H.objs.size = I at hIL hIb hI0 St0 ⊢
  refine ⟨I, [I], [I], 1, _, _, fun i h => BS s.heap L ba x t u n none (laid x (if i = 0 then 0 else x.size)) h, rfl, Walks.range (A := A.deeper _) hA I 0 n 1, ?_, St0, S₄, ?_, ?_⟩
  · intro i h h' S k
    exact S.off k (by simp [hIL]) (by simp [hIb]) (by simp [hI0])
  · -- the one turn of the outer loop
    intro i v h tk hi hP hSt S
    obtain ⟨ti, rfl⟩ := hP
    obtain rfl : i = 0 := by omega
    obtain ⟨⟨m, F, d1, d2, d3, d4⟩, d5⟩ := S
    refine sto F fun h₅ F₅ K₅ => ?_
    have St5 := K₅ I _ (Ne.symm hIL) hSt
    have S₅ : BS s.heap L ba x t u n (some 0) (laid x 0) h₅ := ⟨⟨_, F₅, oth d1, oth d2, oth d3, fun k hk => ⟨ti, by cases hk; simp⟩⟩, K₅ _ _ (Ne.symm hLb) d5⟩
    clear F₅ K₅ F d1 d2 d3 d4 d5 hSt
    refine wpAny_execs_cons (For_walks ?_)
    obtain ⟨⟨m₅, F₅, d1, d2, d3, d4⟩, d5⟩ := id S₅
    have G₅ : Gd w h₅ := G.keep F₅.keep
    refine wpAny_Call_ofName ?_
    refine name_b (w := w) G₅ (b_range w) v_range ?_
    refine PySem.callWith_type rfl (args1 ?_)
    refine ld F₅ d2 ?_
    refine call_range_1 ?_
    dsimp only
    refine wpAny_pyIter_range (IsRange.new ..) (range_small (by omega) (by omega)) ?_
    rw [rangeSize_one (by omega)]
    dsimp only
    generalize hH' : (h₅.push { cls := .type "range", data := .fields _ }) = H'
    have kH' : Keep h₅ H' := by rw [← hH']; exact Keep.push _
    have kI' : Keep H' (H'.push { cls := .type "range_iterator", data := .fields #[rawInt 0, rawInt n, rawInt 1] }) := Keep.push _
    have hJL : L ≠ H'.objs.size := Nat.ne_of_lt (frL (frKeep F₅ kH'))
    have hJb : ba ≠ H'.objs.size := Nat.ne_of_lt (Heap.lt_size (kH' _ _ d5))
    have hJI : I ≠ H'.objs.size := Nat.ne_of_lt (Heap.lt_size (kH' _ _ St5))
    have hJ0 : s.heap.get? H'.objs.size = none := fresh_none (Keep.trans F₅.keep kH') (Nat.le_refl _)
    have St0' : IsRangeIter (H'.push { cls := .type "range_iterator", data := .fields #[rawInt 0, rawInt n, rawInt 1] }) H'.objs.size (0 + ((0 : Nat) : Int) * 1) (((x.size : Nat) : Int) - ((0 : Nat) : Int)) 1 := by
      simp only [Int.ofNat_zero, Int.zero_mul, Int.add_zero, Int.sub_zero, ← hn]
      exact Heap.get?_push_size _ rfl
    have S₆ := (S₅.off (wr := []) (fun b o _ e => kH' b o e) (by simp) (by simp) (by simp)).off (wr := []) (fun b o _ e => kI' b o e) (by simp) (by simp) (by simp)
    have St6 := kI' _ _ (kH' _ _ St5)
    generalize H'.objs.size = I' at hJL hJb hJI hJ0 St0' ⊢
    refine ⟨I', [I'], [I'], x.size, _, _, fun j h => BS s.heap L ba x t u n (some 0) (laid x j) h ∧ IsRangeIter h I (0 + ((0 + 1 : Nat) : Int) * n) (((1 : Nat) : Int) - ((0 + 1 : Nat) : Int)) n, rfl, Walks.range (A := A.deeper _) hA I' 0 1 x.size, ?_, St0', ⟨S₆, St6⟩, ?_, ?_⟩
    · intro i h h' S k
      exact ⟨S.1.off k (by simp [hJL]) (by simp [hJb]) (by simp [hJ0]), k _ _ (by simp [hJI]) S.2⟩
    · intro j v h tk hj hP hSt S
      obtain ⟨tj, rfl⟩ := hP
      obtain ⟨⟨⟨m, F, d1, d2, d3, d4⟩, d5⟩, d6⟩ := S
      refine sto F fun h₇ F₇ K₇ => ?_
      have St7 := K₇ I' _ (Ne.symm hJL) hSt
      have St8 := K₇ I _ (Ne.symm hIL) d6
      obtain ⟨ti', d4⟩ := d4 0 rfl
      have b7 := K₇ _ _ (Ne.symm hLb) d5
      have ejv : (0 : Int) + (j : Int) * 1 = j := by omega
      rw [ejv] at F₇
      refine wpAny_execs_cons (wpAny_Assign_Subscript ?_)
      refine wpAny_Subscript_BinOp_late ?_
      refine ld F₇ (oth d1) ?_
      refine wpAny_BinOp ?_
      refine ld F₇ (oth d4) ?_
      refine ld F₇ (if_pos rfl) ?_
      refine PyProof.Rows.add_int ?_
      refine ⟨"bytes", _, FB.slot_bytes_getitem.lookup, typeIs_bytes _ _ _, ?_⟩
      have hxt : (Value.bytes x t) = .bytes x.toList.toArray t := by simp
      rw [hxt]
      refine getItem_bytes (by simp; omega) (by omega) (by simp; omega) ?_
      refine ld F₇ (oth d3) ?_
      refine wpAny_BinOp (wpAny_BinOp (wpAny_BinOp ?_))
      refine ld F₇ (oth d4) ?_
      refine ld F₇ (oth d2) ?_
      refine PyProof.Rows.add_int ?_
      refine wpAny_Constant_int ?_
      refine PyProof.Rows.sub_int ?_
      refine ld F₇ (if_pos rfl) ?_
      refine PyProof.Rows.sub_int ?_
      have hsz := laid_size x j (by omega)
      have hv := (x.toList.getD ((0 : Int) + (j : Int)).toNat 0).toNat_lt
      refine setItem_ba b7 (by omega) (by omega) (by omega) (by omega) (by omega) fun h₈ b8 k8 => ?_
      have e3 : ((0 : Int) + n - 1 - (j : Int)).toNat = x.size - 1 - j := by omega
      have e4 : ((0 : Int) + (j : Int)).toNat = j := by omega
      rw [e3, e4] at b8
      rw [show (((x.toList.getD j 0).toNat : Int).toNat.toUInt8) = x.toList.getD j 0 from by simp, laid_next x j hj] at b8
      refine wpAny_execs_nil ⟨rfl, h₈, _, rfl, ⟨⟨⟨_, frOff (wr := [ba]) F₇ (fun c o hc e => k8 c o (by simpa using hc) e) (by simpa using hLb) (by simp [hb0]), oth d1, oth d2, oth d3, fun k hk => ⟨ti', by cases hk; exact oth d4⟩⟩, b8⟩, k8 _ _ (Ne.symm hIb) St8⟩, k8 _ _ (Ne.symm hJb) St7⟩
    · intro h tk S
      obtain ⟨⟨⟨m, F, d1, d2, d3, d4⟩, d5⟩, d6⟩ := S
      refine wpAny_execs_nil ⟨rfl, h, _, rfl, ⟨⟨m, F, d1, d2, d3, fun k hk => nomatch hk⟩, d5⟩, d6⟩
  · intro h tk S
    obtain ⟨⟨m, F, d1, d2, d3, d4⟩, d5⟩ := S
    have G₈ : Gd w h := G.keep F.keep
    refine wpAny_execs_cons (wpAny_Return_some ?_)
    refine wpAny_Call_ofName ?_
    refine name_b (w := w) G₈ (b_bytes w) v_bytes ?_
    refine PySem.callWith_type rfl (args1 ?_)
    refine ld F d3 ?_
    refine call_bytes_ba d5 (by rw [if_neg (by omega), laid_size _ _ (Nat.le_refl _)]; exact hx) fun t' k => ?_
    exact ⟨_, rfl, hQ h k t' _ (by rw [if_neg (by omega)]; exact laid_all x) F.keep⟩
end
end Mine

end

section -- SL
set_option maxRecDepth 100000
namespace Mine
open PySem PySem.W PyProof.Rows PySem.Calls
open PySem.Builtin PySem.Builtin.Str

theorem slice_post {x : Str} {t : Tok} {l u : Option (Int × Tok)} {Q : Value → Shared → Prop} {s : Shared} (hx : x.cps.size ≤ 1000000)
    (h : ∀ t' tk, Q (.str (Txt.slice x (l.map (·.1)) (u.map (·.1))) t') { s with toks := tk }) : (sliceMade x t l u none).post Q s := by
  have hle := Txt.slice_le x (l.map (·.1)) (u.map (·.1))
  have e2 : sizeLine = 16777216 := by decide
  have e3 : x.length = x.cps.size := rfl
  by_cases hc : ((1 : Int) == 1 && (strSliceIndices (l.map (·.1)) (u.map (·.1)) 1 x.length).length == x.length) = true
  · have hr : Txt.slice x (l.map (·.1)) (u.map (·.1)) = x := if_pos hc
    have hm : sliceMade x t l u none = .val (.str x t) := if_pos hc
    rw [hm, ← hr]
    rw [hr]
    have := h t s.toks
    rw [hr] at this
    exact this
  · have hr : Txt.slice x (l.map (·.1)) (u.map (·.1)) = ⟨((strSliceIndices (l.map (·.1)) (u.map (·.1)) 1 x.length).filterMap (x.cps[·]?)).toArray⟩ := if_neg hc
    have hm : sliceMade x t l u none = .str ⟨((strSliceIndices (l.map (·.1)) (u.map (·.1)) 1 x.length).filterMap (x.cps[·]?)).toArray⟩ := if_neg hc
    rw [hm, ← hr]
    exact ⟨by omega, h _ _⟩

theorem slice_first (x : Str) : (Txt.slice x none (some 1)).cps.toList = x.cps.toList.take 1 := by
  have e3 : x.length = x.cps.toList.length := by simp [Str.length]
  by_cases h : 1 ≤ x.cps.toList.length
  · have : Txt.slice x none (some 1) = _ := StrLaws.sliceText_to (x := x) (j := 1) ⟨by omega, by omega⟩
    rw [this]; simp
  · have : Txt.slice x none (some 1) = _ := slice_to_beyond (x := x) (j := 1) (by omega)
    rw [this]
    have : Txt.slice x none (some (x.length : Int)) = _ := StrLaws.sliceText_to (x := x) (j := x.length) ⟨by omega, by omega⟩
    rw [this]
    have hz : x.cps.toList = [] := List.length_eq_zero_iff.mp (by omega)
    rw [hz]; simp

theorem slice_last (x : Str) : (Txt.slice x (some (-1)) none).cps.toList = x.cps.toList.drop (x.cps.size - 1) := by
  have e3 : x.length = x.cps.toList.length := by simp [Str.length]
  have e4 : x.cps.size = x.cps.toList.length := by simp
  have : Txt.slice x (some (-1)) none = _ := slice_from_neg (x := x) (i := -1) (by omega)
  rw [this]
  have : Txt.slice x (some (max 0 ((x.length : Int) + (-1)))) none = _ := StrLaws.sliceText_from (x := x) (i := max 0 ((x.length : Int) + (-1))) ⟨by omega, by omega⟩
  rw [this]
  have e5 : (max 0 ((x.length : Int) + (-1))).toNat = x.cps.size - 1 := by omega
  simp only [e5]
  rw [List.take_of_length_le]
  simp; omega

theorem slice_before (x : Str) (k : Nat) (hk : k < x.cps.size) : (Txt.slice x (some ((k : Int) - 1)) (some (k : Int))).cps.toList = if k = 0 then [] else [x.cps.toList.getD (k - 1) 0] := by
  have e3 : x.length = x.cps.toList.length := by simp [Str.length]
  have e4 : x.cps.size = x.cps.toList.length := by simp
  by_cases h : k = 0
  · subst h
    rw [if_pos rfl]
    have h1 : Txt.slice x (some (((0 : Nat) : Int) - 1)) (some ((0 : Nat) : Int)) = _ := StrLaws.sliceText_neg_lo x (some ((0 : Nat) : Int)) (i := ((0 : Nat) : Int) - 1) (by omega) (by omega)
    rw [h1]
    unfold StrLaws.sliceText
    have h2 : strSliceIndices (some (((0 : Nat) : Int) - 1 + x.length)) (some ((0 : Nat) : Int)) 1 x.length = [] := by
      unfold strSliceIndices sliceRange
      simp only [show (1 : Int) > 0 by decide, if_true]
      rw [if_neg (by omega), if_neg (by omega)]
      rw [List.map_eq_nil_iff, List.range_eq_nil]
      simp
    rw [h2, if_neg (by simp; omega)]
    simp
  · rw [if_neg h]
    have h1 : Txt.slice x (some ((k : Int) - 1)) (some (k : Int)) = _ := StrLaws.sliceText_plain (x := x) (i := (k : Int) - 1) (j := k) ⟨by omega, by omega, by omega⟩
    rw [h1]
    have e5 : ((k : Int) - 1).toNat = k - 1 := by omega
    have e6 : ((k : Int) - ((k : Int) - 1)).toNat = 1 := by omega
    simp only [e5, e6]
    rw [List.drop_eq_getElem_cons (by omega)]
    simp [List.getD_eq_getElem?_getD]
    rw [Array.getElem?_eq_getElem (by omega)]
    rfl
end Mine

end

section -- CE
set_option maxRecDepth 100000
namespace Mine
open PySem PySem.W PyProof.Rows PySem.Calls

section
variable {prog : Program} {w : World} {A : Around} {E : Value → Shared → Prop} {s : Shared} {env : Env}

/-- a call of a def that has cells -/
theorem call_fnC {Q : Value → Shared → Prop} {f : Addr} {vals : List Value} {binds : List (Str × Value)} {name : Str} {params : Arguments} {body : List Stmt} {scope : Scope} {doc pm cd : Value} {o : Obj}
    (ho : (KK w).lookup f = some o) (hdat : o.data = .func (docDef name params body scope pm cd doc)) (G : Gd w s.heap) (hcd : codeIn (KK w) cd name = true) (hroom : A.depth < recursionLimit)
    (hbind : bindArgs (docDef name params body scope pm cd doc) ⟨vals, []⟩ = pure binds)
    (hkind : ∀ x ∈ binds, scope.names.lookup x.1 = some .local ∨ (scope.names.lookup x.1 = some .cell ∧ ((cellsFrom (s.heap.objs.size + 1) scope.names []).lookup x.1).isSome = true))
    (hnd : ((cellsFrom 0 scope.names []).map (·.1)).Nodup)
    (h : ∀ h₁ tk L cells, L = s.heap.objs.size → Fr s.heap L h₁ (bindL (envOfC name scope L f cd).kindOf binds fun _ => none) → News s.heap L h₁ cells →
      CellsAre (bindC (envOfC name scope L f cd).kindOf binds fun _ => none) (cellsFrom (L + 1) scope.names []) cells →
      wpAny (model prog w) (A.deeper (envOfC name scope L f cd)) (execs body (envOfC name scope L f cd)) (fun fl s' => ∃ v, fl = .ret v ∧ Q v s') NoE { s with heap := h₁, toks := tk })
    (hco : scope.isCoroutine = false := by rfl) (hgen : scope.isGenerator = false := by rfl) (hk : scope.kind = .function := by rfl) :
    wpAny (model prog w) A (call (.ref f) vals) Q E s := by
  refine wpAny_call (call_cellsN_ret hroom (G.K _ _ ho) hdat G.lim (codeRec_of G.K hcd) hbind hkind hnd (fun h₁ tk cells F N X => ?_) hco hgen hk)
  refine wpAny_mono (h h₁ tk _ cells rfl F N X) (fun fl s' hq => ?_) fun _ _ x => x.elim
  obtain ⟨v, rfl, hv⟩ := hq
  exact hv

/-- the state of range(n)'s iterator after i items -/
def RI (N : Nat) (I : Addr) (i : Nat) (h : Heap) : Prop := IsRangeIter h I (0 + (i : Int) * 1) ((N : Int) - (i : Int)) 1
theorem RI.at' {N : Nat} {I : Addr} {i : Nat} {h h' : Heap} (r : RI N I i h) (k : ∀ o, h.get? I = some o → h'.get? I = some o) : RI N I i h' := k _ r
theorem walk_range (hh : A.handled = none) (I : Addr) (N : Nat) : Walks prog w A I [I] [I] N (fun i v => i < N ∧ ∃ t, v = Value.int (i : Int) t) (RI N I) where
  sub := fun _ hb => hb
  frame := fun i h h' st k => k I (.head _) _ st
  item := fun i s Q E hi st hQ => (Walks.range (prog := prog) (w := w) hh I 0 1 N).item i s Q E hi st fun v h' tk hP hSt hk => hQ v h' tk (by
    obtain ⟨t, rfl⟩ := hP
    exact ⟨hi, t, by congr 1; omega⟩) hSt hk
  done := fun s Q E st hQ => (Walks.range (prog := prog) (w := w) hh I 0 1 N).done s Q E st hQ
  self := fun i s Q E st hQ => (Walks.range (prog := prog) (w := w) hh I 0 1 N).self i s Q E st hQ

/-- range(n) and its iterator -/
theorem iter_range {n : Int} {N : Nat} {t : Tok} {Q : Value → Shared → Prop} (hn : n = N) (hN : N ≤ 1000000)
    (h : ∀ I H tk, Keep s.heap H → s.heap.objs.size ≤ I → I < H.objs.size → RI N I 0 H → Q (.ref I) { s with heap := H, toks := tk }) :
    wpAny (model prog w) A (call (.type "range") [.int n t]) (fun xv s₁ => wpAny (model prog w) A (pyIter xv) Q E s₁) E s := by
  refine call_range_1 ?_
  refine wpAny_pyIter_range (IsRange.new ..) (range_small (by omega) (by omega)) ?_
  rw [rangeSize_one (by omega)]
  refine h _ _ _ (Keep.trans (Keep.push _) (Keep.push _)) ?_ ?_ ?_
  · rw [Heap.size_push]; exact Nat.le_succ _
  · rw [Heap.size_push _ { cls := .type "range_iterator", data := _ }]; exact Nat.lt_succ_self _
  · unfold RI
    simp only [Int.ofNat_zero, Int.zero_mul, Int.add_zero, Int.sub_zero, ← hn]
    exact Heap.get?_push_size _ rfl

theorem one_test {M : Model} {cenv : Env} {c : Expr} {Q : Bool → Shared → Prop} (h : wpAny M A (isTrue c cenv (eval c cenv)) Q E s) :
    wpAny M A (forIn [c] true fun c r => if r = true then do let ok ← isTrue c cenv (eval c cenv); pure (ForInStep.yield ok) else pure (ForInStep.yield r)) Q E s := by
  rw [List.forIn_cons]
  refine wpAny_bind ?_
  rw [if_pos rfl]
  refine wpAny_bind (wpAny_mono h (fun b s' h' => wpAny_pure ?_) fun _ _ e => e)
  show wpAny M A (forIn [] b _) Q E s'
  rw [List.forIn_nil]; exact wpAny_pure h'

theorem or_last {M : Model} {x : Expr} {pos : Pos} {whole : Sem Value} {Q : Bool → Shared → Prop} (h : wpAny M A (isTrue x env (eval x env)) Q E s) : wpAny M A (isTrue (.BoolOp .Or [x] pos) env whole) Q E s :=
  isTrue_or (wpAny_mono h (fun b _ h' => match b, h' with | false, h' => isTrue_or_nil h' | true, h' => h') fun _ _ e => e)

theorem str_len (x : Str) : x.length = x.cps.size := rfl

/-- does an end begin here -/
def opens (x : Str) (k : Nat) : Bool := x.cps.toList.getD k 0 == 13 || (k == 0 || x.cps.toList.getD (k - 1) 0 != 13)
def opensV (x : Str) : Value → Bool
  | .int k _ => opens x k.toNat
  | _ => false

theorem opens_count {x : Str} {N : Nat} : ∀ (n : Nat) (vs : List Value), vs.length = n → (∀ j v, vs[j]? = some v → j < N ∧ ∃ t, v = Value.int (j : Int) t) → (vs.filter (opensV x)).length = ((List.range n).filter (opens x)).length := by
  intro n
  induction n with
  | zero => intro vs h _; rw [List.length_eq_zero_iff.mp h]; rfl
  | succ n ih =>
    intro vs h hv
    obtain ⟨us, v, rfl⟩ : ∃ us v, vs = us ++ [v] := ⟨vs.dropLast, vs.getLast (by intro e; rw [e] at h; simp at h), (List.dropLast_concat_getLast _).symm⟩
    have hl : us.length = n := by simpa using h
    have h1 := ih us hl fun j u hj => hv j u (by
      have hlt : j < us.length := (List.getElem?_eq_some_iff.mp hj).1
      rw [List.getElem?_append_left hlt]; exact hj)
    obtain ⟨_, t, rfl⟩ := hv n v (by rw [List.getElem?_append_right (by omega), hl]; simp)
    rw [List.filter_append, List.length_append, List.range_succ, List.filter_append, List.length_append, h1]
    have e : opensV x (Value.int (n : Int) t) = opens x n := by
      show opens x _ = _
      congr 1
    simp only [List.filter_cons, e, List.filter_nil]
    split <;> rfl

theorem call_ends {x : Str} {t : Tok} {n : Nat} {Q : Value → Shared → Prop} (G : Gd w s.heap) (hA : A.handled = none) (hroom : A.depth < recursionLimit) (hx : x.cps.size ≤ 1000000) (hn : ((List.range x.cps.size).filter (opens x)).length = n)
    (hQ : ∀ h' tk t', Keep s.heap h' → Q (.int (n : Int) t') { s with heap := h', toks := tk }) : wpAny (model prog w) A (call (.ref 79) [.str x t]) Q E s := by
  have e2 : sizeLine = 16777216 := by decide
  refine call_fnC (binds := [(Str.ofString "run", .str x t)]) (by rfl) (by rfl) G (by kernel_rfl) hroom (by rfl) (kinds_of (by kinds_ok)) (by decide) ?_
  intro h₁ tk L cells hL F N X
  have G₁ : Gd w h₁ := G.keep F.keep
  obtain ⟨oc, rfl, hoc⟩ := X.one
  have hoc : oc.data = .cell (some (.str x t)) := hoc
  have hc₁ : h₁.get? (L + 1) = some oc := N.get (.head _)
  refine wpAny_execs_cons (wpAny_Return_some ?_)
  refine wpAny_Call_ofName ?_
  refine name_b (w := w) G₁ (b_len w) v_len ?_
  refine callWith_builtin rfl (args1 ?_)
  refine wpAny_ListComp_free (cl := [(Str.ofString "run", L + 1)]) (opensV x) (fun _ _ => True) (by rfl) (by decide) rfl (by decide) rfl ?_
  refine wpAny_Call_ofName ?_
  refine name_b (w := w) G₁ (b_range w) v_range ?_
  refine PySem.callWith_type rfl (args1 ?_)
  refine wpAny_Call_ofName ?_
  refine name_b (w := w) G₁ (b_len w) v_len ?_
  refine callWith_builtin rfl (args1 ?_)
  refine wpAny_Name (wpAny_loadName_cell rfl rfl rfl ⟨oc, hc₁, hoc⟩ ?_)
  refine P.len_str (by rw [str_len]; omega) ?_
  refine iter_range (N := x.cps.size) (by rw [str_len]) hx fun I H tk hk hI hI' hSt => ?_
  have kI : ∀ {h' : Heap}, (∀ b o, b ∉ [I] → H.get? b = some o → h'.get? b = some o) → Keep h₁ h' := fun k b o e => k b o (fun hm => by
    rw [List.mem_singleton.mp hm] at e
    exact absurd (Heap.lt_size e) (Nat.not_lt.mpr hI)) (hk b o e)
  refine ⟨I, [I], [I], x.cps.size, _, _, rfl, walk_range (A := A.deeper _) hA I x.cps.size, by omega, hSt, ?_, ⟨?_, ?_⟩, ?_⟩
  · intro b hb
    rw [List.mem_singleton.mp hb]; exact hI'
  · intro C i v s₃ m₃ E' hC hP hns hm hk₃ htk
    obtain ⟨hi, ti, rfl⟩ := hP
    have k₃ := kI hk₃
    have hc₃ := k₃ _ _ hc₁
    have hck : x.cps.toList.getD i 0 = x.cps[i] := by
      rw [List.getD_eq_getElem?_getD, List.getElem?_eq_getElem (by simpa using hi)]; simp
    have e13 : (Str.ofString "\r").cps.toList = [13] := by decide +kernel
    refine one_test (isTrue_or (wpAny_isTrue_Compare1 (wpAny_Subscript_Name_late ?_)))
    refine wpAny_Name (wpAny_loadName_cell rfl rfl rfl ⟨oc, hc₃, hoc⟩ ?_)
    refine wpAny_Name (wpAny_loadName_local rfl rfl hns hm ?_)
    refine ⟨"str", _, PySem.F.slot_str_getitem.lookup, typeIs_str _ _ _, P.getItem_str (c := x.cps[i]) ?_ ?_ ?_⟩
    · simp; omega
    · rw [seqIndex_of (by omega) (by rw [str_len]; omega)]
      simp [Array.getElem?_eq_getElem hi]
    refine Constant_str ?_
    refine P.eq_str (wpAny_truthy_bool ?_)
    have hop : opensV x (.int (i : Int) ti) = opens x i := by show opens x _ = _; congr 1
    rw [hop]
    unfold opens
    rw [hck]
    by_cases h13 : x.cps[i] = 13
    · rw [if_pos (by rw [e13]; simpa using h13)]
      exact ⟨by simp [h13], s₃.heap, _, rfl, fun _ _ e => e⟩
    rw [if_neg (by rw [e13]; simpa using h13)]
    refine or_last (wpAny_isTrue_Compare1 ?_)
    refine wpAny_Subscript_str_slice ?_
    refine wpAny_Name (wpAny_loadName_cell rfl rfl rfl ⟨oc, hc₃, hoc⟩ ?_)
    refine evalPart_some_step (wpAny_BinOp ?_)
    refine wpAny_Name (wpAny_loadName_local rfl rfl hns hm ?_)
    refine wpAny_Constant_int ?_
    refine PyProof.Rows.sub_int ?_
    refine evalPart_some_step ?_
    refine wpAny_Name (wpAny_loadName_local rfl rfl hns hm ?_)
    refine ⟨x, t, some (_, _), some (_, _), rfl, rfl, rfl, slice_post hx fun t' tk' => ?_⟩
    refine Constant_str ?_
    refine P.ne_str (wpAny_truthy_bool ?_)
    have hsl : (Txt.slice x (some ((i : Int) - 1)) (some (i : Int))).cps.toList = _ := slice_before x i hi
    simp only [Option.map_some] at hsl ⊢
    rw [hsl, e13]
    refine ⟨?_, _, _, rfl, fun b o e => Heap.get?_push_of_some _ e⟩
    have h13' : (x.cps[i] == 13) = false := by simpa using h13
    rw [h13', Bool.false_or]
    by_cases h0 : i = 0
    · rw [if_pos h0, h0]; rfl
    · rw [if_neg h0, beq_eq_false_iff_ne.mpr h0, Bool.false_or]
      show (!([x.cps.toList.getD (i - 1) 0] == [13])) = !(x.cps.toList.getD (i - 1) 0 == 13)
      generalize x.cps.toList.getD (i - 1) 0 = c
      show (!((c == 13) && true)) = _
      rw [Bool.and_true]
  · intro C i v s₃ m₃ E' hC hP hpv hns hm hk₃ htk
    exact wpAny_Name (wpAny_loadName_local rfl rfl hns hm ⟨trivial, s₃.heap, s₃.toks, rfl, fun _ _ e => e⟩)
  · intro D h' tk ys vs hD hl hpl hlen hP hF hk'
    have hsz : ys.size = n := by
      rw [← hn, ← opens_count (x := x) x.cps.size vs hlen hP, ← Array.length_toList]
      exact hF.length.symm
    have hle : n ≤ x.cps.size := by
      rw [← hn]
      refine Nat.le_trans (List.length_filter_le _ _) ?_
      simp
    refine call_len_list hl (by omega) ?_
    rw [hsz]
    exact ⟨_, rfl, hQ h' _ _ (Keep.trans F.keep (kI hk'))⟩
end
end Mine

end

section -- UT
set_option maxRecDepth 100000
namespace Mine
open PySem PySem.W PyProof.Rows PySem.Calls

section
variable {M : Model} {A : Around} {E : Value → Shared → Prop} {s : Shared} {env : Env}
theorem exec_cut {st : Stmt} {rest : List Stmt} {Q : Flow → Shared → Prop} (P : Heap → Prop) (h1 : wpAny M A (exec st env) (fun f s' => f = .next ∧ ∃ h' tk', s' = { s with heap := h', toks := tk' } ∧ P h') E s)
    (h2 : ∀ h' tk', P h' → wpAny M A (execs rest env) Q E { s with heap := h', toks := tk' }) : wpAny M A (execs (st :: rest) env) Q E s := by
  refine wpAny_execs_cons (wpAny_mono h1 (fun f s' h => ?_) fun _ _ e => e)
  obtain ⟨rfl, h', tk', rfl, hp⟩ := h
  exact h2 h' tk' hp
theorem eval_cut {e : Expr} {Q : Value → Shared → Prop} (P : Value → Heap → Prop) (h1 : wpAny M A (eval e env) (fun v s' => ∃ h' tk', s' = { s with heap := h', toks := tk' } ∧ P v h') E s)
    (h2 : ∀ v h' tk', P v h' → Q v { s with heap := h', toks := tk' }) : wpAny M A (eval e env) Q E s :=
  wpAny_mono h1 (fun v s' h => by obtain ⟨h', tk', rfl, hp⟩ := h; exact h2 v h' tk' hp) fun _ _ e => e
theorem sub_any {value slice : Expr} {pos : Pos} {Q : Value → Shared → Prop}
    (h : wpAny M A (eval value env) (fun o s₁ => wpAny M A (eval slice env) (fun i s₂ => SubscriptOn M A o i Q E s₂) E s₁) E s)
    (hs : ∀ o i, ∃ ops, subscripted slice false o i = operate ops (getItem o i) := by exact fun _ _ => ⟨_, rfl⟩) (ht : ∀ o r, letTemporaryGo value o r = pure () := by intro _ _; rfl) :
    wpAny M A (eval (.Subscript value slice pos) env) Q E s := by
  refine Subscript_ (wpAny_mono h (fun o s₁ h₁ => wpAny_mono h₁ (fun i s₂ h₂ => ?_) fun _ _ e => e) fun _ _ e => e)
  obtain ⟨ops, ho⟩ := hs o i
  exact tail_of_ItemOn h₂ ho fun r => ht o r
end

section
variable {prog : Program} {w : World} {A : Around} {E : Value → Shared → Prop} {s : Shared} {x y : Str} {t u : Tok}
theorem cat_made {Q : Value → Shared → Prop} (hs : x.cps.size + y.cps.size ≤ 1000000) (h : ∀ z t' tk, z.cps.toList = x.cps.toList ++ y.cps.toList → Q (.str z t') { s with toks := tk }) :
    (if x.length == 0 then Made.val (.str y u) else if y.length == 0 then Made.val (.str x t) else Made.str (x ++ y)).post Q s := by
  have e2 : sizeLine = 16777216 := by decide
  by_cases hx : x.length = 0
  · rw [if_pos (by simpa using hx)]
    refine h y u s.toks ?_
    have : x.cps.toList = [] := List.length_eq_zero_iff.mp (by simpa [str_len] using hx)
    rw [this]; rfl
  rw [if_neg (by simpa using hx)]
  by_cases hy : y.length = 0
  · rw [if_pos (by simpa using hy)]
    refine h x t s.toks ?_
    have : y.cps.toList = [] := List.length_eq_zero_iff.mp (by simpa [str_len] using hy)
    rw [this, List.append_nil]
  rw [if_neg (by simpa using hy)]
  have e : (x ++ y).cps.toList = x.cps.toList ++ y.cps.toList := by show (x.cps ++ y.cps).toList = _; simp
  refine ⟨?_, h _ _ _ e⟩
  rw [str_len, ← Array.length_toList, e]; simp; omega
theorem cat {Q : Value → Shared → Prop} (hs : x.cps.size + y.cps.size ≤ 1000000) (h : ∀ z t' tk, z.cps.toList = x.cps.toList ++ y.cps.toList → Q (.str z t') { s with toks := tk }) :
    wpAny (model prog w) A (binaryOp .Add (.str x t) (.str y u)) Q E s := P.add_str (cat_made hs h)
theorem icat {Q : Value → Shared → Prop} (hs : x.cps.size + y.cps.size ≤ 1000000) (h : ∀ z t' tk, z.cps.toList = x.cps.toList ++ y.cps.toList → Q (.str z t') { s with toks := tk }) :
    wpAny (model prog w) A (inplaceOp .Add (.str x t) (.str y u)) Q E s := P.iadd_str (cat_made hs h)

def rep (N : Nat) (l : List Nat) : List Nat := (List.replicate N l).flatten
theorem rep_length (N : Nat) (l : List Nat) : (rep N l).length = N * l.length := by simp [rep]
theorem foldl_rep (x : Array Nat) : ∀ (N : Nat) (a : Array Nat), ((List.replicate N x).foldl (· ++ ·) a).toList = a.toList ++ rep N x.toList
  | 0, a => by simp [rep]
  | N + 1, a => by
    rw [List.replicate_succ, List.foldl_cons, foldl_rep x N]
    simp [rep, List.replicate_succ]
theorem rep_one (l : List Nat) : rep 1 l = l := by simp [rep]
theorem rep_nil (N : Nat) : rep N [] = [] := by simp [rep]
theorem mul_rep {n : Int} {N : Nat} {Q : Value → Shared → Prop} (hn : n = N) (hs : x.cps.size * N ≤ 1000000) (hN : N ≤ 1000000) (h : ∀ z t' tk, z.cps.toList = rep N x.cps.toList → Q (.str z t') { s with toks := tk }) :
    wpAny (model prog w) A (binaryOp .Mult (.str x t) (.int n u)) Q E s := by
  have e2 : sizeLine = 16777216 := by decide
  have e3 : n.toNat = N := by omega
  refine P.mul_str (by simp; omega) ?_ ?_ ?_
  · intro h1 _
    have hm : ((x.length : Nat) : Int) * n ≤ 2 ^ 63 - 1 := by
      rw [hn, str_len, ← Int.natCast_mul]; omega
    have := Int.le_ediv_of_mul_le (by omega : 0 < n) hm
    omega
  · intro _ _
    rw [e3, str_len]
    show decide (_ > sizeLine) = false
    simp; omega
  · by_cases h1 : n < 1
    · rw [if_pos h1]
      have : N = 0 := by omega
      subst this
      exact ⟨by decide, h _ _ _ (by simp [rep, Str.empty])⟩
    rw [if_neg h1]
    by_cases h2 : (n == 1 || x.length == 0) = true
    · rw [if_pos h2]
      refine h x t s.toks ?_
      simp only [Bool.or_eq_true, beq_iff_eq] at h2
      rcases h2 with h2 | h2
      · have : N = 1 := by omega
        rw [this, rep_one]
      · have : x.cps.toList = [] := List.length_eq_zero_iff.mp (by simpa [str_len] using h2)
        rw [this, rep_nil]
    · rw [if_neg h2]
      have e4 := foldl_rep x.cps n.toNat #[]
      refine ⟨?_, h _ _ _ (by rw [e4, e3]; simp)⟩
      rw [str_len, ← Array.length_toList, e4, e3]
      simp [rep_length]
      rw [Nat.mul_comm]; omega
end
end Mine

end

section -- TL
set_option maxRecDepth 100000
namespace Mine
open PySem PySem.W PyProof.Rows PySem.Calls

/-- what _law_told is given -/
structure TD where
  ps : List (Str × Tok)
  es : List Value
  en : List Nat
  bA : Addr
  eA : Addr
  dA : Addr
  fro : Bool
  torn : Bool
  more : Nat
  front : Nat
  back : Nat
  head : Nat
  tail : Nat
  fi : Int
  ti : Int
  mo : Int
  fr : Int
  bk : Int
  hd : Int
  tl : Int
  tf : Tok
  tt : Tok
  tm : Tok
  t0 : Tok
  t1 : Tok
  t2 : Tok
  t3 : Tok
structure TD.Ok (d : TD) (h : Heap) : Prop where
  bodies : h.IsList d.bA (strValues d.ps).toArray
  ends : h.IsList d.eA d.es.toArray
  dots : IsTup h d.dA #[.int d.fr d.t0, .int d.bk d.t1, .int d.hd d.t2, .int d.tl d.t3]
  nb : d.ps.length = 4
  ne : d.es.length = 3
  at_ : ∀ k, k < 3 → ∃ t, d.es[k]? = some (.int (d.en.getD k 0 : Nat) t)
  e_fi : d.fi = if d.fro then 1 else 0
  e_ti : d.ti = if d.torn then 1 else 0
  e_mo : d.mo = d.more
  e_fr : d.fr = d.front
  e_bk : d.bk = d.back
  e_hd : d.hd = d.head
  e_tl : d.tl = d.tail
  s_b : ∀ p ∈ d.ps, p.1.cps.size ≤ 10
  s_e : ∀ k, d.en.getD k 0 ≤ 10
  s_m : d.more ≤ 100
  s_0 : d.front ≤ 100
  s_1 : d.back ≤ 100
  s_2 : d.head ≤ 100
  s_3 : d.tail ≤ 100

def TB (d : TD) (m : Str → Option Value) : Prop :=
  m "bodies" = some (.ref d.bA) ∧ m "ends" = some (.ref d.eA) ∧ m "fro" = some (.int d.fi d.tf) ∧ m "torn" = some (.int d.ti d.tt) ∧ m "more" = some (.int d.mo d.tm) ∧ m "dots" = some (.ref d.dA)
theorem TB.set {d : TD} {m : Str → Option Value} {x : Str} {v : Value} (b : TB d m) (hx : ∀ y ∈ (["bodies", "ends", "fro", "torn", "more", "dots"] : List Str), y ≠ x) : TB d (fun y => if y = x then some v else m y) :=
  ⟨oth b.1 (hx _ (by simp)), oth b.2.1 (hx _ (by simp)), oth b.2.2.1 (hx _ (by simp)), oth b.2.2.2.1 (hx _ (by simp)), oth b.2.2.2.2.1 (hx _ (by simp)), oth b.2.2.2.2.2 (hx _ (by simp))⟩

/-- the frame: what is given, further locals, and what else holds of the heap -/
def V (d : TD) (h₀ : Heap) (L : Addr) (Z : Heap → Prop) (vs : List (Str × Value)) (h : Heap) : Prop := ∃ m, Fr h₀ L h m ∧ TB d m ∧ (∀ p ∈ vs, m p.1 = some p.2) ∧ Z h

theorem sto_V {M : Model} {A : Around} {E : Value → Shared → Prop} {s : Shared} {env : Env} {d : TD} {h₀ : Heap} {Z : Heap → Prop} {vs : List (Str × Value)} (vs' : List (Str × Value)) {x : Str} {v : Value} {Q : Unit → Shared → Prop}
    (S : V d h₀ env.locals Z vs s.heap) (hZ : ∀ h h', Z h → KeepBut env.locals h h' → Z h') (h : ∀ h', V d h₀ env.locals Z ((x, v) :: vs') h' → Q () { s with heap := h', toks := s.toks + 1 })
    (hs : ∀ p ∈ vs', p ∈ vs ∧ p.1 ≠ x := by simp +decide) (hx : ∀ y ∈ (["bodies", "ends", "fro", "torn", "more", "dots"] : List Str), y ≠ x := by decide)
    (hl : env.kindOf x = some .local := by rfl) (hp : (env.scope.kind == .class || (env.scope.kind == .module && env.locals != env.globals)) = false := by rfl) :
    wpAny M A (storeName env x v) Q E s := by
  obtain ⟨m, F, b, hv, z⟩ := S
  refine sto F (fun h' F' K' => h h' ⟨_, F', b.set hx, ?_, hZ _ _ z K'⟩) hl hp
  intro p hp
  rcases List.mem_cons.mp hp with rfl | hp
  · exact if_pos rfl
  · have := hs p hp
    exact oth (hv p this.1) this.2

theorem lst_at {prog : Program} {w : World} {A : Around} {E : Value → Shared → Prop} {s : Shared} {a : Addr} {items : Array Value} {kk : Int} {k : Nat} {t : Tok} {x : Value} {Q : Value → Shared → Prop} (hl : s.heap.IsList a items) (hk : kk = k) (hfit : k < 1000000) (hx : items[k]? = some x) (h : Q x s) :
    SubscriptOn (model prog w) A (.ref a) (.int kk t) Q E s := by
  obtain ⟨o, e, c, r⟩ := id hl
  exact ⟨"list", _, PySem.F.slot_list_getitem.lookup, ⟨o, e, c⟩, wpAny_getItem_list hl (by omega) (by omega) (by rw [show kk.toNat = k by omega]; exact hx) h⟩
theorem tup_at {prog : Program} {w : World} {A : Around} {E : Value → Shared → Prop} {s : Shared} {a : Addr} {items : Array Value} {kk : Int} {k : Nat} {t : Tok} {x : Value} {Q : Value → Shared → Prop} (hl : IsTup s.heap a items) (hk : kk = k) (hfit : k < 1000000) (hx : items[k]? = some x) (h : Q x s) :
    SubscriptOn (model prog w) A (.ref a) (.int kk t) Q E s := by
  obtain ⟨o, e, c, r⟩ := id hl
  have hlt : k < items.size := (Array.getElem?_eq_some_iff.mp hx).1
  exact ⟨"tuple", _, PySem.F.slot_tuple_getitem.lookup, ⟨o, e, c⟩, PyProof.Rows.getItem_tuple (j := k) hl (by omega) (by omega) (by rw [seqIndex_of (by omega) (by omega), show kk.toNat = k by omega]) hx h⟩
theorem str_at {prog : Program} {w : World} {A : Around} {E : Value → Shared → Prop} {s : Shared} {x : Str} {kk : Int} {k : Nat} {t u : Tok} {Q : Value → Shared → Prop} (hk : kk = k) (hfit : x.cps.size ≤ 1000000) (hx : k < x.cps.size) (h : ∀ t' tk, Q (.str ⟨#[x.cps[k]]⟩ t') { s with toks := tk }) :
    SubscriptOn (model prog w) A (.str x u) (.int kk t) Q E s := by
  refine ⟨"str", _, PySem.F.slot_str_getitem.lookup, typeIs_str _ _ _, P.getItem_str (c := x.cps[k]) ?_ ?_ (h _ _)⟩
  · simp; omega
  · rw [seqIndex_of (by omega) (by rw [str_len]; omega), show kk.toNat = k by omega]
    simp [Array.getElem?_eq_getElem hx]
theorem sub_slice {prog : Program} {w : World} {A : Around} {E : Value → Shared → Prop} {s : Shared} {env : Env} {value : Expr} {lower upper : Option Expr} {p pos : Pos} {Q : Value → Shared → Prop}
    (h : wpAny (model prog w) A (eval value env) (fun o s₁ => wpAny (model prog w) A (evalPart lower env) (fun vl s₂ => wpAny (model prog w) A (evalPart upper env) (fun vu s₃ =>
      ∃ x t l u, o = .str x t ∧ vl = partValue l ∧ vu = partValue u ∧
        (sliceMade x t l u none).post Q { s₃ with heap := s₃.heap.push { cls := .type "slice", data := .fields #[vl, vu, .none] } }) E s₂) E s₁) E s)
    (ht : ∀ x t r, letTemporaryGo value (.str x t) r = pure () := by intro _ _ _; with_unfolding_all rfl) :
    wpAny (model prog w) A (eval (.Subscript value (.Slice lower upper none p) pos) env) Q E s := by
  refine Subscript_ (wpAny_mono h (fun o s₁ h₁ => wpAny_Slice (wpAny_mono h₁ (fun vl s₂ h₂ => wpAny_mono h₂ (fun vu s₃ h₃ => ?_) fun _ _ e => e) fun _ _ e => e)) fun _ _ e => e)
  obtain ⟨x, t, l, u, rfl, rfl, rfl, hQ⟩ := h₃
  rw [evalPart_none]
  exact wpAny_pure (tail_of_ItemOn ⟨"str", _, PySem.F.slot_str_getitem.lookup, typeIs_str _ x t, wpAny_getItem_str_slice (l := l) (u := u) (st := none) ⟨_, Heap.get?_push_size _ rfl, rfl, rfl⟩ rfl hQ⟩ (ops := [.ref _, .str x t]) rfl fun r => ht x t r)
/-- a cell is stored; what else holds of the heap, holds of it with any cell there -/
theorem stoC_V {M : Model} {A : Around} {E : Value → Shared → Prop} {s : Shared} {env : Env} {d : TD} {h₀ : Heap} {Z : Heap → Prop} {vs : List (Str × Value)} {x : Str} {v : Value} {c L : Addr} {Q : Unit → Shared → Prop}
    (S : V d h₀ L Z vs s.heap) (hcL : L ≠ c) (hc0 : h₀.get? c = none) (hcell : ∀ h, Z h → ∃ o v, h.get? c = some o ∧ o.data = .cell v)
    (hZ : ∀ h h' o v, Z h → (∀ b o, b ≠ c → h.get? b = some o → h'.get? b = some o) → h'.get? c = some o → o.data = .cell v → Z h')
    (h : ∀ h' o, h'.get? c = some o → o.data = .cell (some v) → V d h₀ L Z vs h' → Q () { s with heap := h' })
    (hk : env.scope.kind = .function := by rfl) (hl : env.kindOf x = some .cell := by rfl) (hc : env.cells.lookup x = some c := by rfl) :
    wpAny M A (storeName env x v) Q E s := by
  obtain ⟨m, F, b, hv, z⟩ := S
  obtain ⟨o, v₀, e, hd⟩ := hcell _ z
  refine wpAny_storeName_cell hk hl hc ⟨o, e, hd⟩ fun h' hc' hs' => ?_
  obtain ⟨o', e', hd'⟩ := hc'
  exact h h' o' e' hd' ⟨m, frOff (wr := [c]) F (fun a o ha e => hs'.extBut a o (by simpa using ha) e) (by simpa using hcL) (by simp [hc0]), b, hv, hZ _ _ _ _ z (fun a o ha e => hs'.extBut a o ha e) e' hd'⟩
theorem V.list {d : TD} {h₀ h : Heap} {L : Addr} {Z : Heap → Prop} {vs : List (Str × Value)} (S : V d h₀ L Z vs h) {a : Addr} {items : Array Value} (x : h₀.IsList a items) : h.IsList a items :=
  let ⟨_, F, _⟩ := S; let ⟨o, e, r⟩ := x; ⟨o, F.keep _ _ e, r⟩
theorem V.tup {d : TD} {h₀ h : Heap} {L : Addr} {Z : Heap → Prop} {vs : List (Str × Value)} (S : V d h₀ L Z vs h) {a : Addr} {items : Array Value} (x : IsTup h₀ a items) : IsTup h a items :=
  let ⟨_, F, _⟩ := S; let ⟨o, e, r⟩ := x; ⟨o, F.keep _ _ e, r⟩
theorem V.gd {d : TD} {h₀ h : Heap} {L : Addr} {Z : Heap → Prop} {vs : List (Str × Value)} {w : World} (S : V d h₀ L Z vs h) (G : Gd w h₀) : Gd w h := let ⟨_, F, _⟩ := S; G.keep F.keep
end Mine

end

section -- TJ
set_option maxRecDepth 100000
namespace Mine
open PySem PySem.W PyProof.Rows PySem.Calls

theorem rev_strs {b : List Nat} {N : Nat} : ∀ {vs ys : List Value} (k : Nat), (∀ j v, vs[j]? = some v → j + k < N ∧ ∃ u, v = Value.int ((j + k : Nat) : Int) u) → Paired (fun v y => ∃ (c : Nat) (u u' : Tok), v = .int (c : Int) u ∧ y = .str ⟨#[b.reverse.getD c 0]⟩ u') vs ys → N = b.length →
    ∃ ps : List (Str × Tok), ys = strValues ps ∧ textOf ps = (b.reverse.drop k).take vs.length ∧ lens ps = vs.length := by
  intro vs ys k h hp hN
  induction hp generalizing k with
  | nil => exact ⟨[], rfl, by simp [textOf], rfl⟩
  | cons hf _ ih =>
    obtain ⟨c, u, u', rfl, rfl⟩ := hf
    obtain ⟨hlt, _, he⟩ := h 0 _ rfl
    have e1 : c = k := by injection he with e; omega
    subst e1
    have hlt' : c < b.reverse.length := by simp; omega
    have e2 : b.reverse.drop c = b.reverse.getD c 0 :: b.reverse.drop (c + 1) := by
      rw [List.drop_eq_getElem_cons hlt']
      congr 1
      rw [List.getD_eq_getElem?_getD, List.getElem?_eq_getElem hlt']; rfl
    obtain ⟨ps, q1, q2, q3⟩ := ih (c + 1) fun j v hj => by
      have := h (j + 1) v (by simpa using hj)
      rwa [show j + 1 + c = j + (c + 1) by omega] at this
    refine ⟨(⟨#[b.reverse.getD c 0]⟩, u') :: ps, by rw [q1]; rfl, ?_, ?_⟩
    · rw [e2, List.length_cons, List.take_succ_cons, ← q2]; rfl
    · show 1 + lens ps = _
      rw [q3, List.length_cons]; omega

/-- the scope of the comprehension that turns a row -/
abbrev revScope : Scope := { kind := .function, names := [(Str.ofString ".0", .local), (Str.ofString "j", .local), (Str.ofString "len", .globalImplicit), (Str.ofString "row", .free)], isGenerator := false, isCoroutine := false, more := [] }

section
variable {prog : Program} {w : World} {A : Around} {E : Value → Shared → Prop} {s : Shared} {env : Env}
theorem rev_join {r : Str} {tr : Tok} {c : Addr} {o₄ : Obj} {Q : Value → Shared → Prop} {p0 p1 p2 p3 p4 p5 p6 p7 p8 p9 p10 p11 p12 p13 p14 p15 p16 p17 p18 : Pos} (G₄ : Gd w s.heap) (hA : A.handled = none) (hrs : r.cps.size ≤ 500)
    (eo₄ : s.heap.get? c = some o₄) (hd₄ : o₄.data = .cell (some (.str r tr)))
    (hQ : ∀ h' tk z t', z.cps.toList = r.cps.toList.reverse → Keep s.heap h' → Q (.str z t') { s with heap := h', toks := tk })
    (hg : env.globals = mainGlobals := by rfl) (hb : env.builtins = builtinsNs := by rfl) (hk : env.scope.kind = .function := by rfl) (hrng : env.kindOf "range" = some .globalImplicit := by rfl) (hlen : env.kindOf "len" = some .globalImplicit := by rfl)
    (hrow : env.kindOf "row" = some .cell := by rfl) (hcell : env.cells.lookup (Str.ofString "row") = some c := by rfl) (hcl : closureFor revScope env = pure [(Str.ofString "row", c)] := by rfl)
    (hre : ∀ C, (compEnvC revScope [(Str.ofString "row", c)] C env).kindOf "row" = some .cell := by intro _; rfl) (hpp : (p2.endLine == p0.line) = true := by rfl) :
    wpAny (model prog w) A (eval (.Call (.Attribute (.Constant (.str "") 0 p1) "join" p2)
      [.ListComp (.Subscript (.Name "row" p3) (.BinOp (.BinOp (.Call (.Name "len" p4) [.Name "row" p5] [] p6) .Sub (.Constant (.int 1) 0 p7) p8) .Sub (.Name "j" p9) p10) p11)
        [{ target := .Name "j" p12, iter := .Call (.Name "range" p13) [.Call (.Name "len" p14) [.Name "row" p15] [] p16] [] p17, ifs := [], is_async := 0 }] revScope p18] [] p0) env) Q E s := by
  have e2 : sizeLine = 16777216 := by decide
  refine wpAny_Call_method (T := "str") (id := "str.join") rfl rfl hpp PySem.F.plainAttrs_str PySem.F.slot_str_join PySem.F.type_str_join ?_
  refine Constant_str ?_
  refine ⟨typeIs_str _ _ _, (fun a ha => by cases ha), ?_⟩
  refine callWith_builtin rfl (args1 ?_)
  refine wpAny_ListComp_free (cl := [(Str.ofString "row", c)]) (fun _ => true) (fun v y => ∃ (c : Nat) (u u' : Tok), v = .int (c : Int) u ∧ y = .str ⟨#[r.cps.toList.reverse.getD c 0]⟩ u') hcl (by decide) rfl (by decide) rfl ?_
  refine wpAny_Call_ofName ?_
  refine name_b (w := w) G₄ (b_range w) v_range ?_ (hg := hg) (hb := hb) (hk := hk) (hx := hrng)
  refine PySem.callWith_type rfl (args1 ?_)
  refine wpAny_Call_ofName ?_
  refine name_b (w := w) G₄ (b_len w) v_len ?_ (hg := hg) (hb := hb) (hk := hk) (hx := hlen)
  refine callWith_builtin rfl (args1 ?_)
  refine wpAny_Name (wpAny_loadName_cell hk hrow hcell ⟨o₄, eo₄, hd₄⟩ ?_)
  refine P.len_str (by rw [str_len]; omega) ?_
  refine iter_range (N := r.cps.size) (by rw [str_len]) (by omega) fun I' H' tk' hk' hI₁ hI₂ hSt' => ?_
  dsimp only at hk' hI₁
  have kI : ∀ {h' : Heap}, (∀ b o, b ∉ [I'] → H'.get? b = some o → h'.get? b = some o) → Keep s.heap h' := fun k b o e => k b o (fun hm => by
    rw [List.mem_singleton.mp hm] at e
    exact absurd (Heap.lt_size e) (Nat.not_lt.mpr hI₁)) (hk' b o e)
  refine ⟨I', [I'], [I'], r.cps.size, _, _, rfl, walk_range (A := A) hA I' r.cps.size, by omega, hSt', ?_, ⟨?_, ?_⟩, ?_⟩
  · intro b hb
    rw [List.mem_singleton.mp hb]; exact hI₂
  · intro C i v s₃ m₃ E' hC hP hns hm hk₃ htk
    exact no_tests ⟨rfl, s₃.heap, s₃.toks, rfl, fun _ _ e => e⟩
  · intro C j v s₃ m₃ E' hC hP _ hns hm hk₃ htk
    obtain ⟨hj, tj, rfl⟩ := hP
    have k₃ := kI hk₃
    have eo₅ := k₃ _ _ eo₄
    refine wpAny_Subscript_BinOp_late ?_
    refine wpAny_Name (wpAny_loadName_cell rfl (hre C) rfl ⟨o₄, eo₅, hd₄⟩ ?_)
    refine wpAny_BinOp (wpAny_BinOp ?_)
    refine wpAny_Call_ofName ?_
    refine name_b (w := w) (G₄.keep k₃) (b_len w) v_len ?_ (hg := hg) (hb := hb)
    refine callWith_builtin rfl (args1 ?_)
    refine wpAny_Name (wpAny_loadName_cell rfl (hre C) rfl ⟨o₄, eo₅, hd₄⟩ ?_)
    refine P.len_str (by rw [str_len]; omega) ?_
    refine wpAny_Constant_int ?_
    refine PyProof.Rows.sub_int ?_
    refine wpAny_Name (wpAny_loadName_local rfl rfl hns hm ?_)
    refine PyProof.Rows.sub_int ?_
    refine str_at (k := r.cps.size - 1 - j) (by rw [str_len]; omega) (by omega) (by omega) fun t' tk' => ?_
    refine ⟨⟨j, tj, t', rfl, ?_⟩, s₃.heap, _, rfl, fun _ _ e => e⟩
    congr 3
    rw [List.getD_eq_getElem?_getD, List.getElem?_reverse (by simpa using hj), Array.length_toList, Array.getElem?_toList, Array.getElem?_eq_getElem (by omega)]
    rfl
  · intro D' h' tk' ys vs hD' hl hpl' hlen' hP hF hk'
    have k' := kI hk'
    rw [List.filter_eq_self.mpr (fun _ _ => rfl)] at hF
    obtain ⟨ps, q1, q2, q3⟩ := rev_strs (b := r.cps.toList) (N := r.cps.size) 0 (fun j v hj => hP j v hj) hF (by simp)
    have q2' : textOf ps = r.cps.toList.reverse := by rw [q2, hlen', List.drop_zero, List.take_of_length_le (by simp)]
    refine join_pieces (ps := ps) (by decide +kernel) (by rw [← q1]; simpa using hl) (by omega) fun z₁ t₁ k₁ hz₁ => ?_
    exact hQ h' k₁ z₁ t₁ (hz₁.trans q2') k'
end
end Mine

end

section -- TM
set_option maxRecDepth 100000
namespace Mine
open PySem PySem.W PyProof.Rows PySem.Calls

def TD.body (d : TD) (k : Nat) : List Nat := (d.ps.map fun p => p.1.cps.toList).getD k []
def TD.rowAt (d : TD) (k : Nat) : List Nat := Pl.row (d.body k) (d.front + if k = 0 then d.head else 0) (d.back + if k = 3 then d.tail else 0)
def TD.endAt (d : TD) (k : Nat) : List Nat := if k < 3 then Pl.pairs d.torn (d.en.getD (if d.fro then 2 - k else k) 0 + d.more) else []
def TD.part (d : TD) (k : Nat) : List Nat := (if d.fro then (d.rowAt (3 - k)).reverse else d.rowAt k) ++ d.endAt k
def TD.text (d : TD) : List Nat := (List.range 4).flatMap d.part

/-- the list of rows and the cell -/
def Zb (L D : Addr) (qs : List (Str × Tok)) (h : Heap) : Prop := h.PlainList D (strValues qs).toArray ∧ ∃ o v, h.get? (L + 1) = some o ∧ o.data = .cell v
theorem Zb.at' {L D : Addr} {qs : List (Str × Tok)} {h h' : Heap} (z : Zb L D qs h) (k : ∀ b o, b = D ∨ b = L + 1 → h.get? b = some o → h'.get? b = some o) : Zb L D qs h' := by
  obtain ⟨⟨n, e⟩, o, v, e', hd⟩ := z
  exact ⟨⟨n, k _ _ (.inl rfl) e⟩, o, v, k _ _ (.inr rfl) e', hd⟩
theorem V.off {d : TD} {h₀ h h' : Heap} {L : Addr} {Z : Heap → Prop} {vs : List (Str × Value)} {wr : List Addr} (S : V d h₀ L Z vs h) (k : ∀ b o, b ∉ wr → h.get? b = some o → h'.get? b = some o) (hL : L ∉ wr) (h0 : ∀ b ∈ wr, h₀.get? b = none) (hZ : Z h → Z h') : V d h₀ L Z vs h' :=
  let ⟨m, F, b, hv, z⟩ := S
  ⟨m, frOff F k hL h0, b, hv, hZ z⟩
theorem V.mono {d : TD} {h₀ h : Heap} {L : Addr} {Z Z' : Heap → Prop} {vs vs' : List (Str × Value)} (S : V d h₀ L Z vs h) (hv : ∀ p ∈ vs', p ∈ vs) (hZ : Z h → Z' h) : V d h₀ L Z' vs' h :=
  let ⟨m, F, b, v, z⟩ := S
  ⟨m, F, b, fun p hp => v p (hv p hp), hZ z⟩

theorem V.keep {d : TD} {h₀ h h' : Heap} {L : Addr} {Z : Heap → Prop} {vs : List (Str × Value)} (S : V d h₀ L Z vs h) (k : Keep h h') (hZ : ∀ h h', Z h → KeepBut L h h' → Z h') : V d h₀ L Z vs h' :=
  let ⟨m, F, b, v, z⟩ := S
  ⟨m, frKeep F k, b, v, hZ _ _ z fun b o _ e => k b o e⟩

theorem rep_dot (N : Nat) : rep N [46] = List.replicate N 46 := by
  induction N with
  | zero => rfl
  | succ n ih => rw [List.replicate_succ, ← ih]; simp [rep, List.replicate_succ]

theorem rep_pairs (torn : Bool) (N : Nat) : rep N (if torn then [10, 13] else [13, 10]) = Pl.pairs torn N := by
  induction N with
  | zero => rfl
  | succ n ih => rw [Pl.pairs, ← ih]; simp [rep, List.replicate_succ]

section
variable {prog : Program} {w : World} {A : Around} {E : Value → Shared → Prop} {s : Shared}

set_option maxHeartbeats 4000000 in
theorem call_told {d : TD} {Q : Value → Shared → Prop} (G : Gd w s.heap) (hA : A.handled = none) (hroom : A.depth < recursionLimit) (ok : d.Ok s.heap)
    (hQ : ∀ h' tk t' y, y.cps.toList = d.text → Keep s.heap h' → Q (.str y t') { s with heap := h', toks := tk }) :
    wpAny (model prog w) A (call (.ref 94) [.ref d.bA, .ref d.eA, .int d.fi d.tf, .int d.ti d.tt, .int d.mo d.tm, .ref d.dA]) Q E s := by
  have e2 : sizeLine = 16777216 := by decide
  refine call_fnC (binds := [(Str.ofString "bodies", .ref d.bA), (Str.ofString "ends", .ref d.eA), (Str.ofString "fro", .int d.fi d.tf), (Str.ofString "torn", .int d.ti d.tt), (Str.ofString "more", .int d.mo d.tm), (Str.ofString "dots", .ref d.dA)]) (by rfl) (by rfl) G (by kernel_rfl) hroom (by rfl) (kinds_of (by kinds_ok)) (by decide) ?_
  intro h₁ tk L cells hL F N X
  obtain ⟨oc, rfl, hoc⟩ := X.one
  have hc₁ : h₁.get? (L + 1) = some oc := N.get (.head _)
  have hc0 : s.heap.get? (L + 1) = none := N.fresh (.head _)
  have hoc : oc.data = .cell none := hoc
  have hL0 : s.heap.get? L = none := by rw [hL]; exact fresh_none .refl (Nat.le_refl _)
  have S₁ : V d s.heap L (fun h => ∃ o v, h.get? (L + 1) = some o ∧ o.data = .cell v) [] h₁ := ⟨_, F, ⟨rfl, rfl, rfl, rfl, rfl, rfl⟩, (fun p hp => by cases hp), oc, _, hc₁, hoc⟩
  clear F N X
  -- rows = []
  refine exec_cut (fun h => ∃ D, D ≠ L ∧ D ≠ L + 1 ∧ s.heap.get? D = none ∧ V d s.heap L (Zb L D []) [("rows", .ref D)] h) ?_ ?_
  · refine wpAny_Assign_Name (List_ (spliced_nil ?_))
    refine wpAny_newObj_type ?_
    obtain ⟨m, F, b, hv, o, v, e, hd⟩ := S₁
    have k : Keep h₁ (h₁.push { cls := .type "list", data := .seq ([] : List Value).toArray }) := Keep.push _
    have hDL : h₁.objs.size ≠ L := Ne.symm (Nat.ne_of_lt (frL F))
    have hDc : h₁.objs.size ≠ L + 1 := Ne.symm (Nat.ne_of_lt (Heap.lt_size e))
    have hD0 := fresh_none F.keep (Nat.le_refl h₁.objs.size)
    have S₂ : V d s.heap L (Zb L h₁.objs.size []) [] (h₁.push { cls := .type "list", data := .seq ([] : List Value).toArray }) := ⟨m, frKeep F k, b, hv, ⟨_, Heap.get?_push_size _ rfl⟩, o, v, k _ _ e, hd⟩
    generalize h₁.objs.size = D at hDL hDc hD0 S₂ ⊢
    refine sto_V [] S₂ ?_ fun h' S' => ⟨rfl, h', _, rfl, D, hDL, hDc, hD0, S'⟩
    intro h h' z kb
    exact z.at' fun b o hb => kb b o (hb.elim (fun e => e ▸ hDL) fun e => e ▸ Nat.succ_ne_self _)
  intro h₂ tk₂; dsimp only; rintro ⟨D, hDL, hDc, hD0, S₂⟩
  have zb : ∀ {qs : List (Str × Tok)} {h h' : Heap}, Zb L D qs h → KeepBut L h h' → Zb L D qs h' := fun z kb => z.at' fun b o hb => kb b o (hb.elim (fun e => e ▸ hDL) fun e => e ▸ Nat.succ_ne_self _)
  clear S₁ hc₁ hoc
  -- the rows
  refine exec_cut (fun h => ∃ qs : List (Str × Tok), qs.map (fun q => q.1.cps.toList) = (List.range 4).map d.rowAt ∧ V d s.heap L (Zb L D qs) [("rows", .ref D)] h) ?_ ?_
  · refine For_walks ?_
    obtain ⟨m, F, b, hv, z⟩ := id S₂
    have G₂ := S₂.gd G
    refine wpAny_Call_ofName ?_
    refine name_b (w := w) G₂ (b_range w) v_range ?_
    refine PySem.callWith_type rfl (args1 ?_)
    refine wpAny_Call_ofName ?_
    refine name_b (w := w) G₂ (b_len w) v_len ?_
    refine callWith_builtin rfl (args1 ?_)
    refine ldLoc F b.1 ?_
    have hn4 : (strValues d.ps).toArray.size = 4 := by simp [strValues, ok.nb]
    refine call_len_list (S₂.list ok.bodies) (by omega) ?_
    refine iter_range (N := 4) (by omega) (by omega) fun I H tk hk hI hI' hSt => ?_
    dsimp only at hk hI
    have hIL : L ≠ I := Nat.ne_of_lt (Nat.lt_of_lt_of_le (frL F) hI)
    have hID : D ≠ I := by obtain ⟨⟨n, e⟩, _⟩ := z; exact Nat.ne_of_lt (Nat.lt_of_lt_of_le (Heap.lt_size e) hI)
    have hIc : L + 1 ≠ I := by obtain ⟨_, _, _, e, _⟩ := z; exact Nat.ne_of_lt (Nat.lt_of_lt_of_le (Heap.lt_size e) hI)
    have hI0 : s.heap.get? I = none := fresh_none F.keep hI
    refine ⟨I, [I], [I], 4, _, _, fun i h => ∃ qs : List (Str × Tok), qs.map (fun q => q.1.cps.toList) = (List.range i).map d.rowAt ∧ V d s.heap L (Zb L D qs) [("rows", .ref D)] h, rfl, walk_range (A := A.deeper _) hA I 4, ?_, hSt, ⟨[], rfl, S₂.off (wr := []) (fun b o _ e => hk b o e) (by simp) (by simp) fun z => z.at' fun b o _ e => hk b o e⟩, ?_, ?_⟩
    · rintro i h h' ⟨qs, hq, S⟩ k
      exact ⟨qs, hq, S.off k (by simp [hIL]) (by simp [hI0]) fun z => z.at' fun b o hb e => k b o (by simpa using hb.elim (fun e => e ▸ hID) fun e => e ▸ hIc) e⟩
    · rintro i v h tk hi ⟨_, ti, rfl⟩ hSt ⟨qs, hq, S⟩
      dsimp only
      obtain ⟨T, hT1, hT2⟩ : ∃ T : Heap → Prop, (∀ h, T h → Zb L D qs h ∧ RI 4 I (i + 1) h) ∧ ∀ h, Zb L D qs h ∧ RI 4 I (i + 1) h → T h := ⟨_, fun _ h => h, fun _ h => h⟩
      have hZ : ∀ h h', T h → KeepBut L h h' → T h' := fun h h' z kb => hT2 _ ⟨zb (hT1 _ z).1 kb, (hT1 _ z).2.at' fun o e => kb _ _ (Ne.symm hIL) e⟩
      have S0 : V d s.heap L T [("rows", .ref D)] h := S.mono (fun _ hp => hp) fun z => hT2 _ ⟨z, hSt⟩
      obtain ⟨q, hqi⟩ : ∃ q, d.ps[i]? = some q := ⟨_, List.getElem?_eq_getElem (by rw [ok.nb]; exact hi)⟩
      have hbi : d.body i = q.1.cps.toList := by simp [TD.body, List.getD_eq_getElem?_getD, hqi]
      have hval : (strValues d.ps).toArray[i]? = some (.str q.1 q.2) := by simp [strValues, hqi]
      have hqs : q.1.cps.size ≤ 10 := ok.s_b q (List.mem_of_getElem? hqi)
      have e46 : (Str.ofString ".").cps.toList = [46] := by decide +kernel
      refine sto_V [("rows", .ref D)] S0 hZ fun h₃ S₃ => ?_
      clear S0 S
      refine exec_cut (fun h => V d s.heap L T [("ahead", .int d.fr d.t0), ("k", .int (i : Int) ti), ("rows", .ref D)] h) ?_ ?_
      · refine wpAny_Assign_Name (wpAny_Subscript_Constant_late ?_)
        obtain ⟨m, F, b, hv, z⟩ := id S₃
        refine ldLoc F b.2.2.2.2.2 (wpAny_Constant_int ?_)
        refine tup_at (k := 0) (S₃.tup ok.dots) (by omega) (by omega) rfl ?_
        exact sto_V [("k", .int (i : Int) ti), ("rows", .ref D)] S₃ hZ fun h' S' => ⟨rfl, h', _, rfl, S'⟩
      intro h₄ tk₄; dsimp only; intro S₄
      refine exec_cut (fun h => V d s.heap L T [("behind", .int d.bk d.t1), ("ahead", .int d.fr d.t0), ("k", .int (i : Int) ti), ("rows", .ref D)] h) ?_ ?_
      · refine wpAny_Assign_Name (wpAny_Subscript_Constant_late ?_)
        obtain ⟨m, F, b, hv, z⟩ := id S₄
        refine ldLoc F b.2.2.2.2.2 (wpAny_Constant_int ?_)
        refine tup_at (k := 1) (S₄.tup ok.dots) (by omega) (by omega) rfl ?_
        exact sto_V [("ahead", .int d.fr d.t0), ("k", .int (i : Int) ti), ("rows", .ref D)] S₄ hZ fun h' S' => ⟨rfl, h', _, rfl, S'⟩
      intro h₅ tk₅; dsimp only; intro S₅
      refine exec_cut (fun h => ∃ (a : Int) (ta : Tok), a = d.fr + (if i = 0 then d.hd else 0) ∧ V d s.heap L T [("ahead", .int a ta), ("behind", .int d.bk d.t1), ("k", .int (i : Int) ti), ("rows", .ref D)] h) ?_ ?_
      · refine wpAny_If (wpAny_isTrue_Compare1 ?_)
        obtain ⟨m, F, b, hv, z⟩ := id S₅
        refine ldLoc F (hv ("k", .int (i : Int) ti) (by simp)) (wpAny_Constant_int ?_)
        refine PyProof.Rows.eq_int (wpAny_truthy_bool ?_)
        by_cases hi0 : i = 0
        · rw [if_pos (by simp [hi0])]
          refine wpAny_execs_cons (wpAny_AugAssign_Name ?_)
          refine wpAny_loadName_local rfl rfl F.ns (hv ("ahead", .int d.fr d.t0) (by simp)) ?_
          refine wpAny_Subscript_Constant_late ?_
          refine ldLoc F b.2.2.2.2.2 (wpAny_Constant_int ?_)
          refine tup_at (k := 2) (S₅.tup ok.dots) (by omega) (by omega) rfl ?_
          refine PyProof.Rows.iadd_int ?_
          exact sto_V [("behind", .int d.bk d.t1), ("k", .int (i : Int) ti), ("rows", .ref D)] S₅ hZ fun h' S' => wpAny_execs_nil ⟨rfl, h', _, rfl, _, _, by rw [if_pos hi0], S'⟩
        · rw [if_neg (by simp; omega)]
          exact wpAny_execs_nil ⟨rfl, h₅, _, rfl, d.fr, d.t0, by simp [hi0], S₅.mono (by simp) fun z => z⟩
      intro h₆ tk₆; dsimp only; rintro ⟨a, ta, ha, S₆⟩
      refine exec_cut (fun h => ∃ (c : Int) (tc : Tok), c = d.bk + (if i = 3 then d.tl else 0) ∧ V d s.heap L T [("behind", .int c tc), ("ahead", .int a ta), ("k", .int (i : Int) ti), ("rows", .ref D)] h) ?_ ?_
      · refine wpAny_If (wpAny_isTrue_Compare1 ?_)
        obtain ⟨m, F, b, hv, z⟩ := id S₆
        refine ldLoc F (hv ("k", .int (i : Int) ti) (by simp)) (wpAny_BinOp ?_)
        refine wpAny_Call_ofName ?_
        refine name_b (w := w) (S₆.gd G) (b_len w) v_len ?_
        refine callWith_builtin rfl (args1 ?_)
        refine ldLoc F b.1 ?_
        refine call_len_list (S₆.list ok.bodies) (by omega) ?_
        refine wpAny_Constant_int ?_
        refine PyProof.Rows.sub_int ?_
        refine PyProof.Rows.eq_int (wpAny_truthy_bool ?_)
        rw [hn4]
        by_cases hi0 : i = 3
        · rw [if_pos (by simp [hi0])]
          refine wpAny_execs_cons (wpAny_AugAssign_Name ?_)
          refine wpAny_loadName_local rfl rfl F.ns (hv ("behind", .int d.bk d.t1) (by simp)) ?_
          refine wpAny_Subscript_Constant_late ?_
          refine ldLoc F b.2.2.2.2.2 (wpAny_Constant_int ?_)
          refine tup_at (k := 3) (S₆.tup ok.dots) (by omega) (by omega) rfl ?_
          refine PyProof.Rows.iadd_int ?_
          exact sto_V [("ahead", .int a ta), ("k", .int (i : Int) ti), ("rows", .ref D)] S₆ hZ fun h' S' => wpAny_execs_nil ⟨rfl, h', _, rfl, _, _, by rw [if_pos hi0], S'⟩
        · rw [if_neg (by simp; omega)]
          exact wpAny_execs_nil ⟨rfl, h₆, _, rfl, d.bk, d.t1, by simp [hi0], S₆.mono (by simp) fun z => z⟩
      intro h₇ tk₇; dsimp only; rintro ⟨c, tc, hc, S₇⟩
      -- a body that does not begin with a dot
      refine exec_cut (fun h => ∃ (a' : Int) (ta : Tok), a' = (if (d.body i).head? = some 46 then a else 0) ∧ V d s.heap L T [("ahead", .int a' ta), ("behind", .int c tc), ("k", .int (i : Int) ti), ("rows", .ref D)] h) ?_ ?_
      · refine wpAny_If (wpAny_isTrue_Compare1 ?_)
        obtain ⟨m, F, b, hv, z⟩ := id S₇
        refine sub_slice ?_
        refine wpAny_Subscript_Name_late ?_
        refine ldLoc F b.1 ?_
        refine ldLoc F (hv ("k", .int (i : Int) ti) (by simp)) ?_
        refine lst_at (S₇.list ok.bodies) rfl (by omega) hval ?_
        refine evalPart_none_step (evalPart_some_step (wpAny_Constant_int ?_))
        refine ⟨q.1, q.2, none, some (_, _), rfl, rfl, rfl, slice_post (by omega) fun t' tk' => ?_⟩
        have hfst : (Txt.slice q.1 none (some 1)).cps.toList = _ := slice_first q.1
        simp only [Option.map_some, Option.map_none] at hfst ⊢
        refine Constant_str ?_
        refine P.ne_str (wpAny_truthy_bool ?_)
        rw [hfst, e46, ← hbi]
        have S₇' := S₇.keep (Keep.push { cls := .type "slice", data := .fields #[.none, .int 1 tk₇, .none] }) hZ
        have hiff : ((d.body i).take 1 != [46]) = !decide ((d.body i).head? = some 46) := by
          cases d.body i with
          | nil => rfl
          | cons x l => simp [bne]; rfl
        rw [hiff]
        by_cases hh : (d.body i).head? = some 46
        · rw [if_neg (by simp [hh])]
          exact wpAny_execs_nil ⟨rfl, _, _, rfl, a, ta, by rw [if_pos hh], S₇'.mono (by simp) fun z => z⟩
        · rw [if_pos (by simp [hh])]
          refine wpAny_execs_cons (wpAny_Assign_Name (wpAny_Constant_int ?_))
          exact sto_V [("behind", .int c tc), ("k", .int (i : Int) ti), ("rows", .ref D)] S₇' hZ fun h' S' => wpAny_execs_nil ⟨rfl, h', _, rfl, _, _, by rw [if_neg hh], S'⟩
      intro h₈ tk₈; dsimp only; rintro ⟨a', ta', ha', S₈⟩
      refine exec_cut (fun h => ∃ (c' : Int) (tc : Tok), c' = (if (d.body i).getLast? = some 46 then c else 0) ∧ V d s.heap L T [("behind", .int c' tc), ("ahead", .int a' ta'), ("k", .int (i : Int) ti), ("rows", .ref D)] h) ?_ ?_
      · refine wpAny_If (wpAny_isTrue_Compare1 ?_)
        obtain ⟨m, F, b, hv, z⟩ := id S₈
        refine sub_slice ?_
        refine wpAny_Subscript_Name_late ?_
        refine ldLoc F b.1 ?_
        refine ldLoc F (hv ("k", .int (i : Int) ti) (by simp)) ?_
        refine lst_at (S₈.list ok.bodies) rfl (by omega) hval ?_
        refine evalPart_some_step (wpAny_UnaryOp (wpAny_Constant_int (PyProof.Rows.neg_int ?_)))
        refine evalPart_none_step ?_
        refine ⟨q.1, q.2, some (_, _), none, rfl, rfl, rfl, slice_post (by omega) fun t' tk' => ?_⟩
        have hlst : (Txt.slice q.1 (some (-1)) none).cps.toList = _ := slice_last q.1
        simp only [Option.map_some, Option.map_none] at hlst ⊢
        refine Constant_str ?_
        refine P.ne_str (wpAny_truthy_bool ?_)
        rw [hlst, e46]
        have hiff : (q.1.cps.toList.drop (q.1.cps.size - 1) != [46]) = !decide ((d.body i).getLast? = some 46) := by
          rw [hbi, ← Array.length_toList]
          generalize q.1.cps.toList = l
          rcases List.eq_nil_or_concat l with rfl | ⟨l', x, rfl⟩
          · rfl
          · simp [bne]; rfl
        rw [hiff]
        have S₈' := S₈.keep (Keep.push { cls := .type "slice", data := .fields #[.int (-1) (tk₈ + 1), .none, .none] }) hZ
        by_cases hh : (d.body i).getLast? = some 46
        · rw [if_neg (by simp [hh])]
          exact wpAny_execs_nil ⟨rfl, _, _, rfl, c, tc, by rw [if_pos hh], S₈'.mono (by simp) fun z => z⟩
        · rw [if_pos (by simp [hh])]
          refine wpAny_execs_cons (wpAny_Assign_Name (wpAny_Constant_int ?_))
          exact sto_V [("ahead", .int a' ta'), ("k", .int (i : Int) ti), ("rows", .ref D)] S₈' hZ fun h' S' => wpAny_execs_nil ⟨rfl, h', _, rfl, _, _, by rw [if_neg hh], S'⟩
      intro h₉ tk₉; dsimp only; rintro ⟨c', tc', hc', S₉⟩
      obtain ⟨NA, hNA, hNA'⟩ : ∃ N : Nat, a' = N ∧ N = if (d.body i).head? = some 46 then d.front + (if i = 0 then d.head else 0) else 0 := by
        refine ⟨_, ?_, rfl⟩
        rw [ha', ha, ok.e_fr, ok.e_hd]
        split <;> (try split) <;> simp
      obtain ⟨NC, hNC, hNC'⟩ : ∃ N : Nat, c' = N ∧ N = if (d.body i).getLast? = some 46 then d.back + (if i = 3 then d.tail else 0) else 0 := by
        refine ⟨_, ?_, rfl⟩
        rw [hc', hc, ok.e_bk, ok.e_tl]
        split <;> (try split) <;> simp
      have b0 := ok.s_0
      have b1 := ok.s_1
      have b2 := ok.s_2
      have b3 := ok.s_3
      have sA : NA ≤ 200 := by rw [hNA']; split <;> (try split) <;> omega
      have sC : NC ≤ 200 := by rw [hNC']; split <;> (try split) <;> omega
      have s46 : (Str.ofString ".").cps.size = 1 := by decide +kernel
      obtain ⟨m, F, b, hv, z⟩ := id S₉
      obtain ⟨⟨⟨nD, eD⟩, zc⟩, zI⟩ := hT1 _ z
      refine wpAny_execs_cons (wpAny_Expr ?_)
      refine wpAny_Call_method (T := "list") (id := "list.append") rfl rfl rfl PySem.F.plainAttrs_list PySem.F.slot_list_append PySem.F.type_list_append ?_
      refine ldLoc F (hv ("rows", .ref D) (by simp)) ?_
      refine ⟨⟨_, eD, rfl⟩, fun a ha => ⟨_, by cases ha; exact eD, rfl⟩, ?_⟩
      refine callWith_builtin rfl (args1 ?_)
      refine wpAny_BinOp (wpAny_BinOp (wpAny_BinOp ?_))
      refine Constant_str ?_
      refine ldLoc F (hv ("ahead", .int a' ta') (by simp)) ?_
      refine mul_rep hNA (by rw [s46]; omega) (by omega) fun z₁ t₁ k₁ hz₁ => ?_
      have l₁ : z₁.cps.size = NA := by rw [← Array.length_toList, hz₁, rep_length, Array.length_toList, s46]; omega
      refine wpAny_Subscript_Name_late ?_
      refine ldLoc F b.1 ?_
      refine ldLoc F (hv ("k", .int (i : Int) ti) (by simp)) ?_
      refine lst_at (S₉.list ok.bodies) rfl (by omega) hval ?_
      refine cat (by omega) fun z₂ t₂ k₂ hz₂ => ?_
      have l₂ : z₂.cps.size = NA + q.1.cps.size := by rw [← Array.length_toList, hz₂, List.length_append, Array.length_toList, Array.length_toList, l₁]
      refine wpAny_BinOp ?_
      refine Constant_str ?_
      refine ldLoc F (hv ("behind", .int c' tc') (by simp)) ?_
      refine mul_rep hNC (by rw [s46]; omega) (by omega) fun z₃ t₃ k₃ hz₃ => ?_
      have l₃ : z₃.cps.size = NC := by rw [← Array.length_toList, hz₃, rep_length, Array.length_toList, s46]; omega
      refine cat (by omega) fun z₄ t₄ k₄ hz₄ => ?_
      have hrow : z₄.cps.toList = d.rowAt i := by
        rw [hz₄, hz₂, hz₁, hz₃, e46, rep_dot, rep_dot, ← hbi, hNA', hNC']
        unfold TD.rowAt Pl.row
        rw [List.append_assoc]
      have hql : qs.length = i := by have := congrArg List.length hq; simpa using this
      refine wpAny_list_append_plain ⟨nD, eD⟩ (fun h' hp hs => ?_) (by simp [strValues]; omega)
      have kD : ∀ c o, c ∉ [D] → h₉.get? c = some o → h'.get? c = some o := fun c o hc e => hs.extBut c o (by simpa using hc) e
      refine wpAny_execs_nil ⟨rfl, h', _, rfl, ⟨qs ++ [(z₄, t₄)], ?_, m, frOff F kD (by simpa using Ne.symm hDL) (by simp [hD0]), b, fun p hp => hv p ?_, ?_, ?_⟩, zI.at' fun o e => kD I o (by simpa using Ne.symm hID) e⟩
      · rw [List.map_append, hq, List.range_succ, List.map_append]; simp [hrow]
      · simp only [List.mem_singleton] at hp; rw [hp]; simp
      · have : (strValues (qs ++ [(z₄, t₄)])).toArray = (strValues qs).toArray.push (.str z₄ t₄) := by simp [strValues]
        rw [this]; exact hp
      · obtain ⟨o, v, e, hd⟩ := zc
        exact ⟨o, v, kD _ _ (by simpa using Ne.symm hDc) e, hd⟩
    · rintro h tk ⟨qs, hq, S⟩
      exact ⟨rfl, h, _, rfl, qs, hq, S⟩
  intro h₃ tk₃; dsimp only; rintro ⟨qs, hq, S₃⟩
  clear S₂
  have hqv : ∀ k, k < 4 → ∃ r : Str × Tok, (strValues qs).toArray[k]? = some (.str r.1 r.2) ∧ r.1.cps.toList = d.rowAt k := by
    intro k hk
    have hql : qs.length = 4 := by have := congrArg List.length hq; simpa using this
    have hlt : k < qs.length := by omega
    refine ⟨qs[k], by simp [strValues, List.getElem?_eq_getElem hlt], ?_⟩
    have := congrArg (fun l : List (List Nat) => l[k]?) hq
    simp only [List.getElem?_map, List.getElem?_eq_getElem hlt, List.getElem?_range hk, Option.map_some, Option.some.injEq] at this
    exact this
  have hrl : ∀ k, (d.rowAt k).length ≤ 500 := by
    intro k
    have b0 := ok.s_0
    have b1 := ok.s_1
    have b2 := ok.s_2
    have b3 := ok.s_3
    have hb : (d.body k).length ≤ 10 := by
      unfold TD.body
      rw [List.getD_eq_getElem?_getD, List.getElem?_map]
      cases e : d.ps[k]? with
      | none => simp
      | some q => simpa using ok.s_b q (List.mem_of_getElem? e)
    unfold TD.rowAt Pl.row
    simp only [List.length_append, List.length_replicate]
    have : (if (d.body k).head? = some 46 then d.front + (if k = 0 then d.head else 0) else 0) ≤ 200 := by split <;> (try split) <;> omega
    have : (if (d.body k).getLast? = some 46 then d.back + (if k = 3 then d.tail else 0) else 0) ≤ 200 := by split <;> (try split) <;> omega
    omega
  have hpl : ∀ (torn : Bool) (N : Nat), (Pl.pairs torn N).length = 2 * N := fun torn N => by
    rw [← rep_pairs, rep_length]; cases torn <;> simp <;> omega
  have hel : ∀ k, (d.endAt k).length ≤ 300 := by
    intro k
    unfold TD.endAt
    split
    · have := ok.s_e (if d.fro = true then 2 - k else k)
      have := ok.s_m
      rw [hpl]; omega
    · simp
  have hparts : ∀ k, (d.part k).length ≤ 800 := by
    intro k
    have h1 := hrl (3 - k)
    have h2 := hrl k
    have h3 := hel k
    unfold TD.part
    rw [List.length_append]
    split
    · rw [List.length_reverse]; omega
    · omega
  have htl : ∀ k, ((List.range k).flatMap d.part).length ≤ 800 * k := by
    intro k
    induction k with
    | zero => simp
    | succ k ih =>
      have := hparts k
      rw [List.range_succ, List.flatMap_append, List.length_append]
      simp only [List.flatMap_cons, List.flatMap_nil, List.append_nil]
      omega
  have hZb : ∀ h h', Zb L D qs h → KeepBut L h h' → Zb L D qs h' := fun h h' z kb => zb z kb
  -- pair
  refine exec_cut (fun h => ∃ (pr : Str) (tp : Tok), pr.cps.toList = (if d.torn then [10, 13] else [13, 10]) ∧ V d s.heap L (Zb L D qs) [("pair", .str pr tp), ("rows", .ref D)] h) ?_ ?_
  · refine wpAny_Assign_Name (wpAny_IfExp (wpAny_isTrue_Compare1 ?_))
    obtain ⟨m, F, b, hv, z⟩ := id S₃
    refine ldLoc F b.2.2.2.1 (wpAny_Constant_int ?_)
    refine PyProof.Rows.eq_int (wpAny_truthy_bool ?_)
    cases ht : d.torn with
    | true =>
      rw [if_pos (by rw [ok.e_ti, ht]; rfl)]
      refine Constant_str ?_
      exact sto_V [("rows", .ref D)] S₃ hZb fun h' S' => ⟨rfl, h', _, rfl, _, _, by decide +kernel, S'⟩
    | false =>
      rw [if_neg (by rw [ok.e_ti, ht]; decide)]
      refine Constant_str ?_
      exact sto_V [("rows", .ref D)] S₃ hZb fun h' S' => ⟨rfl, h', _, rfl, _, _, by decide +kernel, S'⟩
  intro h₄ tk₄; dsimp only; rintro ⟨pr, tp, hpr, S₄⟩
  have hprs : pr.cps.size = 2 := by rw [← Array.length_toList, hpr]; cases d.torn <;> rfl
  -- text
  refine exec_cut (fun h => ∃ (y : Str) (ty : Tok), y.cps.toList = [] ∧ V d s.heap L (Zb L D qs) [("text", .str y ty), ("pair", .str pr tp), ("rows", .ref D)] h) ?_ ?_
  · refine wpAny_Assign_Name (Constant_str ?_)
    exact sto_V [("pair", .str pr tp), ("rows", .ref D)] S₄ hZb fun h' S' => ⟨rfl, h', _, rfl, _, _, by decide +kernel, S'⟩
  intro h₅ tk₅; dsimp only; rintro ⟨y₅, ty₅, hy₅, S₅⟩
  refine exec_cut (fun h => ∃ (y : Str) (ty : Tok), y.cps.toList = d.text ∧ V d s.heap L (Zb L D qs) [("text", .str y ty), ("pair", .str pr tp), ("rows", .ref D)] h) ?_ ?_
  · refine For_walks ?_
    obtain ⟨m, F, b, hv, z⟩ := id S₅
    have G₅ := S₅.gd G
    have hn4 : (strValues qs).toArray.size = 4 := by
      have := congrArg List.length hq
      simp at this
      simp [strValues, this]
    refine wpAny_Call_ofName ?_
    refine name_b (w := w) G₅ (b_range w) v_range ?_
    refine PySem.callWith_type rfl (args1 ?_)
    refine wpAny_Call_ofName ?_
    refine name_b (w := w) G₅ (b_len w) v_len ?_
    refine callWith_builtin rfl (args1 ?_)
    refine ldLoc F (hv ("rows", .ref D) (by simp)) ?_
    refine call_len_list z.1.isList (by omega) ?_
    refine iter_range (N := 4) (by omega) (by omega) fun I H tk hk hI hI' hSt => ?_
    dsimp only at hk hI
    have hIL : L ≠ I := Nat.ne_of_lt (Nat.lt_of_lt_of_le (frL F) hI)
    have hID : D ≠ I := by obtain ⟨⟨n, e⟩, _⟩ := z; exact Nat.ne_of_lt (Nat.lt_of_lt_of_le (Heap.lt_size e) hI)
    have hIc : L + 1 ≠ I := by obtain ⟨_, _, _, e, _⟩ := z; exact Nat.ne_of_lt (Nat.lt_of_lt_of_le (Heap.lt_size e) hI)
    have hI0 : s.heap.get? I = none := fresh_none F.keep hI
    refine ⟨I, [I], [I], 4, _, _, fun i h => ∃ (y : Str) (ty : Tok), y.cps.toList = (List.range i).flatMap d.part ∧ V d s.heap L (Zb L D qs) [("text", .str y ty), ("pair", .str pr tp), ("rows", .ref D)] h, rfl, walk_range (A := A.deeper _) hA I 4, ?_, hSt, ⟨y₅, ty₅, hy₅, S₅.off (wr := []) (fun b o _ e => hk b o e) (by simp) (by simp) fun z => z.at' fun b o _ e => hk b o e⟩, ?_, ?_⟩
    · rintro i h h' ⟨y, ty, hy, S⟩ k
      exact ⟨y, ty, hy, S.off k (by simp [hIL]) (by simp [hI0]) fun z => z.at' fun b o hb e => k b o (by simpa using hb.elim (fun e => e ▸ hID) fun e => e ▸ hIc) e⟩
    · rintro i v h tk hi ⟨_, ti, rfl⟩ hSt ⟨y, ty, hy, S⟩
      dsimp only
      obtain ⟨T, hT1, hT2⟩ : ∃ T : Heap → Prop, (∀ h, T h → Zb L D qs h ∧ RI 4 I (i + 1) h) ∧ ∀ h, Zb L D qs h ∧ RI 4 I (i + 1) h → T h := ⟨_, fun _ h => h, fun _ h => h⟩
      have hZ : ∀ h h', T h → KeepBut L h h' → T h' := fun h h' z kb => hT2 _ ⟨zb (hT1 _ z).1 kb, (hT1 _ z).2.at' fun o e => kb _ _ (Ne.symm hIL) e⟩
      have S0 : V d s.heap L T [("text", .str y ty), ("pair", .str pr tp), ("rows", .ref D)] h := S.mono (fun _ hp => hp) fun z => hT2 _ ⟨z, hSt⟩
      have hyl : y.cps.size ≤ 800 * i := by rw [← Array.length_toList, hy]; exact htl i
      refine sto_V [("text", .str y ty), ("pair", .str pr tp), ("rows", .ref D)] S0 hZ fun h₃ S₃ => ?_
      have S₃ : V d s.heap L T [("k", .int (i : Int) ti), ("text", .str y ty), ("pair", .str pr tp), ("rows", .ref D)] h₃ := S₃
      clear S0 S
      refine exec_cut (fun h => ∃ (y' : Str) (ty : Tok), y'.cps.toList = y.cps.toList ++ (if d.fro then (d.rowAt (3 - i)).reverse else d.rowAt i) ∧ V d s.heap L T [("text", .str y' ty), ("k", .int (i : Int) ti), ("pair", .str pr tp), ("rows", .ref D)] h) ?_ ?_
      · refine wpAny_If (wpAny_isTrue_Compare1 ?_)
        obtain ⟨m, F, b, hv, z⟩ := id S₃
        refine ldLoc F b.2.2.1 (wpAny_Constant_int ?_)
        refine PyProof.Rows.eq_int (wpAny_truthy_bool ?_)
        cases hf : d.fro with
        | true =>
          rw [if_pos (by rw [ok.e_fi, hf]; rfl)]
          have zD := (hT1 _ z).1.1
          obtain ⟨r, hrv, hrr⟩ := hqv (3 - i) (by omega)
          have hrs : r.1.cps.size ≤ 500 := by rw [← Array.length_toList, hrr]; exact hrl _
          refine wpAny_execs_cons (wpAny_Assign_Name (wpAny_Subscript_BinOp_late ?_))
          refine ldLoc F (hv ("rows", .ref D) (by simp)) ?_
          refine wpAny_BinOp (wpAny_BinOp ?_)
          refine wpAny_Call_ofName ?_
          refine name_b (w := w) (S₃.gd G) (b_len w) v_len ?_
          refine callWith_builtin rfl (args1 ?_)
          refine ldLoc F (hv ("rows", .ref D) (by simp)) ?_
          refine call_len_list zD.isList (by omega) ?_
          refine wpAny_Constant_int ?_
          refine PyProof.Rows.sub_int ?_
          refine ldLoc F (hv ("k", .int (i : Int) ti) (by simp)) ?_
          refine PyProof.Rows.sub_int ?_
          refine lst_at (k := 3 - i) zD.isList (by omega) (by omega) hrv ?_
          refine stoC_V (c := L + 1) S₃ (Ne.symm (Nat.succ_ne_self L)) hc0 (fun h z => (hT1 _ z).1.2) (fun h h' o v z k e' hd' => hT2 _ ⟨⟨(hT1 _ z).1.1.at fun o e => k _ _ hDc e, o, v, e', hd'⟩, (hT1 _ z).2.at' fun o e => k _ _ (Ne.symm hIc) e⟩) fun h₄ o₄ eo₄ hd₄ S₄ => ?_
          dsimp only
          refine wpAny_execs_cons (wpAny_AugAssign_Name ?_)
          obtain ⟨m₄, F₄, b₄, hv₄, z₄⟩ := id S₄
          refine wpAny_loadName_local rfl rfl F₄.ns (hv₄ ("text", .str y ty) (by simp)) ?_
          refine rev_join (S₄.gd G) hA hrs eo₄ hd₄ fun h₅ tk₅ z₁ t₁ hz₁ k₅ => ?_
          have l₁ : z₁.cps.size ≤ 500 := by rw [← Array.length_toList, hz₁, List.length_reverse, Array.length_toList]; exact hrs
          refine icat (by omega) fun z₂ t₂ k₂ hz₂ => ?_
          refine sto_V [("k", .int (i : Int) ti), ("pair", .str pr tp), ("rows", .ref D)] (S₄.keep k₅ hZ) hZ fun h₆ S₆ => wpAny_execs_nil ⟨rfl, h₆, _, rfl, _, _, ?_, S₆⟩
          rw [hz₂, hz₁, hrr, if_pos rfl]
        | false =>
          rw [if_neg (by rw [ok.e_fi, hf]; decide)]
          obtain ⟨r, hrv, hrr⟩ := hqv i hi
          have hrs : r.1.cps.size ≤ 500 := by rw [← Array.length_toList, hrr]; exact hrl _
          refine wpAny_execs_cons (wpAny_AugAssign_Name ?_)
          refine wpAny_loadName_local rfl rfl F.ns (hv ("text", .str y ty) (by simp)) ?_
          refine wpAny_Subscript_Name_late ?_
          refine ldLoc F (hv ("rows", .ref D) (by simp)) ?_
          refine ldLoc F (hv ("k", .int (i : Int) ti) (by simp)) ?_
          refine lst_at (k := i) (hT1 _ z).1.1.isList rfl (by omega) hrv ?_
          refine icat (by omega) fun z₂ t₂ k₂ hz₂ => ?_
          refine sto_V [("k", .int (i : Int) ti), ("pair", .str pr tp), ("rows", .ref D)] S₃ hZ fun h₆ S₆ => wpAny_execs_nil ⟨rfl, h₆, _, rfl, _, _, ?_, S₆⟩
          rw [hz₂, hrr, if_neg (by decide)]
      intro h₇ tk₇; dsimp only; rintro ⟨y₇, ty₇, hy₇, S₇⟩
      have hy7l : y₇.cps.size ≤ 800 * i + 500 := by
        rw [← Array.length_toList, hy₇, List.length_append, Array.length_toList]
        have := hrl (3 - i)
        have := hrl i
        split
        · rw [List.length_reverse]; omega
        · omega
      have hdone : ∀ {y' : Str} {ty' : Tok} {h' : Heap}, y'.cps.toList = y₇.cps.toList ++ d.endAt i → V d s.heap L T [("text", .str y' ty'), ("k", .int (i : Int) ti), ("pair", .str pr tp), ("rows", .ref D)] h' →
          (∃ (y : Str) (ty : Tok), y.cps.toList = (List.range (i + 1)).flatMap d.part ∧ V d s.heap L (Zb L D qs) [("text", .str y ty), ("pair", .str pr tp), ("rows", .ref D)] h') ∧ RI 4 I (i + 1) h' := by
        intro y' ty' h' he S'
        obtain ⟨m, F, b, hv, z⟩ := id S'
        refine ⟨⟨y', ty', ?_, S'.mono (by simp) fun z => (hT1 _ z).1⟩, (hT1 _ z).2⟩
        rw [he, hy₇, hy, List.range_succ, List.flatMap_append]
        simp only [List.flatMap_cons, List.flatMap_nil, List.append_nil, TD.part, List.append_assoc]
      refine wpAny_execs_cons (wpAny_If (wpAny_isTrue_Compare1 ?_))
      obtain ⟨m, F, b, hv, z⟩ := id S₇
      refine ldLoc F (hv ("k", .int (i : Int) ti) (by simp)) ?_
      refine wpAny_Call_ofName ?_
      refine name_b (w := w) (S₇.gd G) (b_len w) v_len ?_
      refine callWith_builtin rfl (args1 ?_)
      refine ldLoc F b.2.1 ?_
      have hn3 : d.es.toArray.size = 3 := by simp [ok.ne]
      refine call_len_list (S₇.list ok.ends) (by omega) ?_
      refine PyProof.Rows.lt_int (wpAny_truthy_bool ?_)
      rw [hn3]
      by_cases hi3 : i < 3
      · rw [if_pos (by simp; omega)]
        refine wpAny_execs_cons (wpAny_AugAssign_Name ?_)
        refine wpAny_loadName_local rfl rfl F.ns (hv ("text", .str y₇ ty₇) (by simp)) ?_
        refine wpAny_BinOp ?_
        refine ldLoc F (hv ("pair", .str pr tp) (by simp)) ?_
        refine wpAny_BinOp (sub_any ?_)
        refine ldLoc F b.2.1 ?_
        refine eval_cut (fun v h' => h' = h₇ ∧ ∃ t, v = .int ((if d.fro = true then 2 - i else i : Nat) : Int) t) ?_ ?_
        · refine wpAny_IfExp (wpAny_isTrue_Compare1 ?_)
          refine ldLoc F b.2.2.1 (wpAny_Constant_int ?_)
          refine PyProof.Rows.eq_int (wpAny_truthy_bool ?_)
          cases hf : d.fro with
          | true =>
            rw [if_pos (by rw [ok.e_fi, hf]; rfl)]
            refine wpAny_BinOp (wpAny_BinOp ?_)
            refine wpAny_Call_ofName ?_
            refine name_b (w := w) (S₇.gd G) (b_len w) v_len ?_
            refine callWith_builtin rfl (args1 ?_)
            refine ldLoc F b.2.1 ?_
            refine call_len_list (S₇.list ok.ends) (by omega) ?_
            refine wpAny_Constant_int ?_
            refine PyProof.Rows.sub_int ?_
            refine ldLoc F (hv ("k", .int (i : Int) ti) (by simp)) ?_
            refine PyProof.Rows.sub_int ?_
            refine ⟨h₇, _, rfl, rfl, ?_⟩
            rw [hn3, if_pos rfl]
            exact ⟨_, by congr 1; omega⟩
          | false =>
            rw [if_neg (by rw [ok.e_fi, hf]; decide)]
            refine ldLoc F (hv ("k", .int (i : Int) ti) (by simp)) ?_
            exact ⟨h₇, _, rfl, rfl, ti, by rw [if_neg (by decide)]⟩
        rintro v h' tk' ⟨rfl, t', rfl⟩
        obtain ⟨j, hj, hj3⟩ : ∃ j, j = (if d.fro = true then 2 - i else i) ∧ j < 3 := ⟨_, rfl, by split <;> omega⟩
        obtain ⟨te, hte⟩ := ok.at_ j hj3
        rw [← hj]
        refine lst_at (k := j) (x := .int ((d.en.getD j 0 : Nat) : Int) te) (S₇.list ok.ends) rfl (by omega) (by rw [List.getElem?_toArray]; exact hte) ?_
        refine ldLoc F b.2.2.2.2.1 ?_
        refine PyProof.Rows.add_int ?_
        have hse := ok.s_e j
        have hsm := ok.s_m
        refine mul_rep (N := d.en.getD j 0 + d.more) (by rw [ok.e_mo]; omega) (by rw [hprs]; omega) (by omega) fun z₁ t₁ k₁ hz₁ => ?_
        have l₁ : z₁.cps.size ≤ 500 := by rw [← Array.length_toList, hz₁, rep_length, Array.length_toList, hprs]; omega
        refine icat (by omega) fun z₂ t₂ k₂ hz₂ => ?_
        refine sto_V [("k", .int (i : Int) ti), ("pair", .str pr tp), ("rows", .ref D)] S₇ hZ fun h₈ S₈ => wpAny_execs_nil (wpAny_execs_nil ⟨rfl, h₈, _, rfl, hdone ?_ S₈⟩)
        rw [hz₂, hz₁, hpr, rep_pairs]
        unfold TD.endAt
        rw [if_pos hi3, hj]
      · rw [if_neg (by simp; omega)]
        refine wpAny_execs_nil (wpAny_execs_nil ⟨rfl, h₇, _, rfl, hdone ?_ S₇⟩)
        unfold TD.endAt; rw [if_neg hi3, List.append_nil]
    · rintro h tk ⟨y, ty, hy, S⟩
      exact ⟨rfl, h, _, rfl, y, ty, hy, S⟩
  intro h₆ tk₆; dsimp only; rintro ⟨y, ty, hy, S₆⟩
  obtain ⟨m, F, b, hv, z⟩ := id S₆
  refine wpAny_execs_cons (wpAny_Return_some ?_)
  refine ldLoc F (hv ("text", .str y ty) (by simp)) ?_
  exact ⟨_, rfl, hQ h₆ _ ty y hy F.keep⟩
end
end Mine

end

section -- ZC
set_option maxRecDepth 100000
namespace Mine
open PySem PySem.W PyProof.Rows PySem.Calls

section
variable {prog : Program} {w : World} {A : Around} {E : Value → Shared → Prop} {env : Env}

/-- the loop of a comprehension over pairs -/
theorem pair_loop {s : Shared} {elt iter : Expr} {a b : Str} {pa pb tp : Pos} {kk : Nat} {scope : Scope} {pos : Pos} {I D : Addr} {fp wr : List Addr} {n : Nat} {Pt : Nat → Array Value → Prop} {St : Nat → Heap → Prop} {Mid : Nat → Addr → Heap → Prop}
    {cenv : Env} {R : Result → Shared → Prop} {m : Str → Option Value} (hh : A.handled = none) (W : WalksT prog w A I fp wr n Pt St Mid) (F : Nat → Value → Prop) (hsz : n ≤ sizeLine) (hP : ∀ i vals, Pt i vals → ∃ x y, vals = #[x, y])
    (ha : cenv.kindOf a = some .local) (hb : cenv.kindOf b = some .local) (hab : a ≠ b) (hp : (cenv.scope.kind == .class || (cenv.scope.kind == .module && cenv.locals != cenv.globals)) = false)
    (hDC : D ≠ cenv.locals) (hDf : D ∉ fp) (hCf : cenv.locals ∉ fp) (hst : St 0 s.heap) (hacc : s.heap.PlainList D #[]) (hn : s.heap.Ns cenv.locals m)
    (helt : ∀ i x y s₂ m₂ E', Pt i #[x, y] → s₂.heap.Ns cenv.locals m₂ → m₂ a = some x → m₂ b = some y → (∀ c o, c ≠ cenv.locals → c ∉ wr → c ≠ D → s.heap.get? c = some o → s₂.heap.get? c = some o) →
      wpAny (model prog w) A (eval elt cenv) (fun v s₃ => F i v ∧ Keeps s₂ s₃) E' s₂)
    (hR : ∀ h' tk m' ys, h'.Ns cenv.locals m' → h'.PlainList D ys → ys.size = n → (∀ j v, ys[j]? = some v → F j v) → (∀ c o, c ≠ cenv.locals → c ∉ wr → c ≠ D → s.heap.get? c = some o → h'.get? c = some o) → R (.ok .next) { s with heap := h', toks := tk }) :
    codeAny (model prog w) A (.compLoop (.ListComp elt [⟨.Tuple [.Name a pa, .Name b pb] kk tp, iter, [], 0⟩] scope pos) 0 (.ref I) (.ref D) cenv) R s := by
  have hCw : cenv.locals ∉ wr := fun h => hCf (W.sub _ h)
  have hDw : D ∉ wr := fun h => hDf (W.sub _ h)
  refine kcp_loop (fun k s' => ∃ h' tk m' ys, s' = { s with heap := h', toks := tk } ∧ ys.size ≤ n ∧ k = n - ys.size ∧ St ys.size h' ∧ h'.PlainList D ys ∧ h'.Ns cenv.locals m' ∧ (∀ j v, ys[j]? = some v → F j v) ∧
      (∀ c o, c ≠ cenv.locals → c ∉ wr → c ≠ D → s.heap.get? c = some o → h'.get? c = some o)) ?_ n ⟨s.heap, s.toks, m, #[], rfl, Nat.zero_le _, rfl, hst, hacc, hn, by simp, fun _ _ _ _ _ e => e⟩
  rintro k s' ⟨h', tk, m', ys, rfl, hle, rfl, hst', hl', hn', hF, hk⟩
  by_cases hlt : ys.size < n
  · refine W.item ys.size _ _ _ hlt hst' fun T vals h₁ tk₁ hPt hT hTup hMid k₁ => ?_
    obtain ⟨x, y, rfl⟩ := hP _ _ hPt
    refine W.go _ _ _ _ _ _ _ _ hMid fun h₂ hst₂ k₂ => ?_
    have hTw := W.apart _ _ _ hMid
    have hTup₂ : h₂.IsTuple T #[x, y] := by obtain ⟨o, e, r⟩ := hTup; exact ⟨o, k₂ _ _ hTw e, r⟩
    have hn₂ : h₂.Ns cenv.locals m' := hn'.at' fun o e => k₂ _ o hCw (k₁ _ o hCw e)
    refine kcp_assign hh hTup₂ ha hb hp hn₂ fun h₃ tk₃ hn₃ k₃ => ?_
    have hst₃ : St (ys.size + 1) h₃ := W.frame _ _ _ hst₂ fun c hc o e => k₃ c o (fun q => hCf (q ▸ hc)) e
    have up : ∀ c o, c ≠ cenv.locals → c ∉ wr → h'.get? c = some o → h₃.get? c = some o := fun c o h1 h2 e => k₃ c o h1 (k₂ c o h2 (k₁ c o h2 e))
    refine wpAny_mono (helt ys.size x y _ _ _ hPt hn₃ (by rw [if_neg hab, if_pos rfl]) (if_pos rfl) fun c o h1 h2 h3 e => up c o h1 h2 (hk c o h1 h2 h3 e)) (fun v s₄ h₄ => ?_) fun _ _ e => e
    obtain ⟨hFv, h₄, tk₄, rfl, k₄⟩ := h₄
    have hl₄ : h₄.PlainList D ys := hl'.at fun o e => k₄ _ o (up D o hDC hDw e)
    refine wpAny_list_append_plain (hsz := by omega) hl₄ fun h₅ hl₅ hs₅ => ?_
    refine ⟨n - (ys.size + 1), by omega, h₅, tk₄, _, ys.push v, rfl, by simp; omega, by simp, ?_, hl₅, (hn₃.keeps k₄).sameBut hs₅ (Ne.symm hDC), ?_, fun c o h1 h2 h3 e => hs₅.extBut c o h3 (k₄ c o (up c o h1 h2 (hk c o h1 h2 h3 e)))⟩
    · have := W.frame _ _ h₅ hst₃ fun c hc o e => hs₅.extBut c o (fun q => hDf (q ▸ hc)) (k₄ c o e)
      simpa using this
    · intro j u hj
      rw [Array.getElem?_push] at hj
      split at hj
      · rename_i hj'; cases hj; rw [hj']; exact hFv
      · exact hF j u hj
  · have hin : ys.size = n := by omega
    refine W.done _ _ _ (hin ▸ hst') fun h₁ tk₁ k₁ => ?_
    exact hR h₁ tk₁ m' ys (hn'.at' fun o e => k₁ _ o hCw e) (hl'.at fun o e => k₁ _ o hDw e) hin hF fun c o h1 h2 h3 e => k₁ c o h2 (hk c o h1 h2 h3 e)

theorem pair_block {s₂ : Shared} {elt iter : Expr} {a b : Str} {pa pb tp : Pos} {kk : Nat} {scope : Scope} {cl : List (Str × Addr)} {pos : Pos} {I : Addr} {fp wr : List Addr} {n : Nat} {Pt : Nat → Array Value → Prop} {St : Nat → Heap → Prop} {Mid : Nat → Addr → Heap → Prop}
    (hh : A.handled = none) (W : WalksT prog w A I fp wr n Pt St Mid) (F : Nat → Value → Prop) (hsz : n ≤ sizeLine) (hP : ∀ i vals, Pt i vals → ∃ x y, vals = #[x, y]) {RR : Value → Addr → Result → Shared → Prop}
    (hcell : ∀ y ∈ scope.names, y.2 ≠ .cell) (hkind : scope.kind = .function) (ha : scope.names.lookup a = some .local) (hb : scope.names.lookup b = some .local) (hab : a ≠ b) (hst : St 0 s₂.heap) (hfp : ∀ c ∈ fp, c < s₂.heap.objs.size)
    (helt : ∀ C i x y s₃ m₃ E', s₂.heap.objs.size ≤ C → Pt i #[x, y] → s₃.heap.Ns C m₃ → m₃ a = some x → m₃ b = some y → (∀ c o, c ∉ wr → s₂.heap.get? c = some o → s₃.heap.get? c = some o) →
      wpAny (model prog w) A (eval elt (compEnvC scope cl C env)) (fun v s₄ => F i v ∧ Keeps s₃ s₄) E' s₃)
    (hRR : ∀ D C h' tk m' ys, s₂.heap.get? D = none → s₂.heap.get? C = none → D ≠ C → h'.Ns C m' → h'.PlainList D ys → ys.size = n → (∀ j v, ys[j]? = some v → F j v) →
      (∀ c o, c ∉ wr → s₂.heap.get? c = some o → h'.get? c = some o) → RR (.ref D) C (.ok .next) { s₂ with heap := h', toks := tk }) :
    wpAny (model prog w) A (newList []) (fun acc s₃ => wpAny (model prog w) A (newFunctionEnv scope env.globals cl [] env.qual none .none (some env)) (fun cenv s₄ =>
      codeAny (model prog w) A (.compStart (.ListComp elt [⟨.Tuple [.Name a pa, .Name b pb] kk tp, iter, [], 0⟩] scope pos) 0 (.ref I) acc { cenv with scope := relabel scope env }) (RR acc cenv.locals) s₄) E s₃) E s₂ := by
  refine wpAny_newObj_type (wpAny_newFunctionEnv hcell (by intro y hy; simp at hy) (fun h₁ hns₁ hsb₁ => ?_) hkind)
  dsimp only at hns₁ hsb₁ ⊢
  generalize hH2 : s₂.heap.push { cls := .type "list", dict := none, data := .seq ([] : List Value).toArray } = H2 at hns₁ hsb₁ ⊢
  have hC : H2.objs.size = s₂.heap.objs.size + 1 := by rw [← hH2, Heap.size_push]
  have hDC : s₂.heap.objs.size ≠ H2.objs.size := by rw [hC]; exact Nat.ne_of_lt (Nat.lt_succ_self _)
  have hCle : s₂.heap.objs.size ≤ H2.objs.size := by rw [hC]; exact Nat.le_succ _
  have below : ∀ b, b < s₂.heap.objs.size → b ≠ H2.objs.size ∧ b ≠ s₂.heap.objs.size := fun b hb => ⟨by rw [hC]; exact Nat.ne_of_lt (Nat.lt_succ_of_lt hb), Nat.ne_of_lt hb⟩
  have hDf : s₂.heap.objs.size ∉ fp := fun hm => Nat.lt_irrefl _ (hfp _ hm)
  have hCf : H2.objs.size ∉ fp := fun hm => by have := hfp _ hm; rw [hC] at this; exact Nat.lt_irrefl _ (Nat.lt_of_succ_lt this)
  have old : ∀ b o, s₂.heap.get? b = some o → h₁.get? b = some o := fun b o e => hsb₁.extBut b o (below b (Heap.lt_size e)).1 (Heap.get?_push_of_some _ (hH2 ▸ Heap.get?_push_of_some _ e))
  have hacc : h₁.PlainList s₂.heap.objs.size #[] := ⟨_, hsb₁.extBut _ _ hDC (Heap.get?_push_of_some _ (hH2 ▸ Heap.get?_push_size _ rfl))⟩
  have hst₁ : St 0 h₁ := W.frame _ _ _ hst fun b _ o e => old b o e
  have fresh : ∀ a, s₂.heap.objs.size ≤ a → s₂.heap.get? a = none := fun a ha => by
    cases e : s₂.heap.get? a with
    | none => rfl
    | some o' => exact absurd (Heap.lt_size e) (Nat.not_lt.mpr ha)
  have loop : ∀ s₃ : Shared, s₃ = { s₂ with heap := h₁, toks := s₂.toks + ([] : List (Str × Value)).length } →
      codeAny (model prog w) A (.compLoop (.ListComp elt [⟨.Tuple [.Name a pa, .Name b pb] kk tp, iter, [], 0⟩] scope pos) 0 (.ref I) (.ref s₂.heap.objs.size) (compEnvC scope cl H2.objs.size env))
        (RR (.ref s₂.heap.objs.size) H2.objs.size) s₃ := by
    rintro s₃ rfl
    refine pair_loop (cenv := compEnvC scope cl H2.objs.size env) hh W F hsz hP (lookup_relabel_local ha) (lookup_relabel_local hb) hab (by simp [compEnvC, relabel, hkind]) hDC hDf hCf hst₁ hacc hns₁
      (fun i x y s₃ m₃ E' hPt hn h1 h2 hk => helt _ i x y s₃ m₃ _ hCle hPt hn h1 h2 fun c o hc e => hk c o (below c (Heap.lt_size e)).1 hc (below c (Heap.lt_size e)).2 (old c o e))
      fun h' tk m' ys hn hpl hlen hF hk => ?_
    exact hRR _ _ h' tk m' ys (fresh _ (Nat.le_refl _)) (fresh _ (by rw [hC]; exact Nat.le_succ _)) hDC hn hpl hlen hF fun c o hc e =>
      hk c o (below c (Heap.lt_size e)).1 hc (below c (Heap.lt_size e)).2 (old c o e)
  exact codeAny_compStart_list (loop _ rfl) (W.self 0 _ _ _ hst₁ (loop _ rfl))

theorem Assign_comp_pair {s : Shared} {elt iter : Expr} {a b y : Str} {pa pb tp py : Pos} {kk : Nat} {scope : Scope} {cl : List (Str × Addr)} {pos spos : Pos} {Q : Flow → Shared → Prop} (F : Nat → Value → Prop) (hh : A.handled = none)
    (hsw : swapsWith (.ListComp elt [⟨.Tuple [.Name a pa, .Name b pb] kk tp, iter, [], 0⟩] scope pos) (some (.Name y py)) spos.line env = pure true)
    (hclos : closureFor scope env = pure cl) (hcell : ∀ z ∈ scope.names, z.2 ≠ .cell) (hkind : scope.kind = .function)
    (hnames : ∀ z ∈ scope.names, z.2 = .local → scope.names.lookup z.1 = some .local) (ha : scope.names.lookup a = some .local) (hb : scope.names.lookup b = some .local) (hab : a ≠ b)
    (hy : env.kindOf y = some .local) (hp : (env.scope.kind == .class || (env.scope.kind == .module && env.locals != env.globals)) = false)
    (h : wpAny (model prog w) A (eval iter env) (fun xv s₁ => wpAny (model prog w) A (pyIter xv) (fun it s₂ => ∃ I fp wr n Pt St Mid m, it = .ref I ∧ WalksT prog w A I fp wr n Pt St Mid ∧ n ≤ sizeLine ∧ (∀ i vals, Pt i vals → ∃ x y, vals = #[x, y]) ∧ St 0 s₂.heap ∧ (∀ b ∈ fp, b < s₂.heap.objs.size) ∧
      env.locals ∉ wr ∧ s₂.heap.Ns env.locals m ∧
      (∀ C i x y s₃ m₃ E', s₂.heap.objs.size ≤ C → Pt i #[x, y] → s₃.heap.Ns C m₃ → m₃ a = some x → m₃ b = some y → (∀ c o, c ∉ wr → s₂.heap.get? c = some o → s₃.heap.get? c = some o) →
        wpAny (model prog w) A (eval elt (compEnvC scope cl C env)) (fun v s₄ => F i v ∧ Keeps s₃ s₄) E' s₃) ∧
      (∀ D h' tk ys, s₂.heap.get? D = none → h'.PlainList D ys → ys.size = n → (∀ j v, ys[j]? = some v → F j v) →
        h'.Ns env.locals (fun z => if z = y then some (.ref D) else m z) → (∀ b o, b ≠ env.locals → b ∉ wr → s₂.heap.get? b = some o → h'.get? b = some o) → Q .next { s₂ with heap := h', toks := tk })) E s₁) E s)
    (hs : ∀ x, foldedSetIterable iter env x = pure x := by intro _; rfl) :
    wpAny (model prog w) A (exec (.Assign [.Name y py] (.ListComp elt [⟨.Tuple [.Name a pa, .Name b pb] kk tp, iter, [], 0⟩] scope pos) spos) env) Q E s := by
  rw [exec_Assign_Name_used _ _ _ _ hsw]
  refine wpAny_bind (wpAny_standAt (wpAny_bind ?_))
  show wpAny _ A (do let _ ← comprehension (.ListComp elt [⟨.Tuple [.Name a pa, .Name b pb] kk tp, iter, [], 0⟩] scope pos) scope env _ (newList []) false (eval iter env) (some (assign (.Name y py) env))) _ _ s
  refine wpAny_bind (wpAny_mono (wpAny_comprehension_free (use := some (assign (.Name y py) env)) (Q := fun _ s' => Q .next s') rfl hs hclos hkind hnames
    (wpAny_mono h (fun xv s₁ h₁ => wpAny_mono h₁ (fun it s₂ h₂ => ?_) fun _ _ e => e) fun _ _ e => e)) (fun _ s' hq => wpAny_pure (wpAny_pure hq)) fun _ _ e => e)
  obtain ⟨I, fp, wr, n, Pt, St, Mid, m, rfl, W, hsz, hPt, hst, hfp, hLf, hn, helt, hQ⟩ := h₂
  refine pair_block (RR := fun acc C => compPost (model prog w) A E (some (assign (.Name y py) env)) (fun _ s' => Q .next s') acc C) hh W F hsz hPt hcell hkind ha hb hab hst hfp helt ?_
  intro D C h' tk m' ys hD hC hDC hnC hplD hlen hF hk
  have hLC : env.locals ≠ C := by rintro rfl; obtain ⟨o, _, _, ho, _⟩ := hn; rw [hC] at ho; cases ho
  have hLD : env.locals ≠ D := by rintro rfl; obtain ⟨o, _, _, ho, _⟩ := hn; rw [hD] at ho; cases ho
  show wpAny _ A (assign (.Name y py) env (.ref D)) _ _ _
  refine wpAny_assign_Name (wpAny_storeName_local hy (hn.at' fun o e => hk _ o hLf e) (fun h₂ hn₂ hs₂ => ?_) hp)
  refine ⟨m', hnC.sameBut hs₂ (Ne.symm hLC), fun h₃ hs₃ => ?_⟩
  exact hQ D h₃ _ ys hD ((hplD.extBut hs₂.extBut (Ne.symm hLD)).extBut hs₃.extBut hDC) hlen hF (hn₂.sameBut hs₃ hLC) fun b o hbL hbf e =>
    hs₃.extBut b o (by rintro rfl; rw [hC] at e; cases e) (hs₂.extBut b o hbL (hk b o hbf e))
end
end Mine

end

section -- LB
set_option maxRecDepth 100000
namespace Mine
open PySem PySem.W PyProof.Rows PySem.Calls

/-- what the names hold and what the ledger holds -/
def Wl (h₀ : Heap) (L : Addr) (os : List (Addr × Obj)) (vs : List (Str × Value)) (h : Heap) : Prop := ∃ m, Fr h₀ L h m ∧ News h₀ L h os ∧ ∀ p ∈ vs, m p.1 = some p.2

abbrev lstO (vs : List Value) (n : Nat) : Obj := { cls := .type "list", data := .seq vs.toArray n }
abbrev tupO (vs : List Value) : Obj := { cls := .type "tuple", data := .seq vs.toArray }

section
variable {h₀ h h' : Heap} {L : Addr} {os os' : List (Addr × Obj)} {vs vs' : List (Str × Value)}
theorem Wl.mono (S : Wl h₀ L os vs h) (ho : ∀ p ∈ os', p ∈ os) (hv : ∀ p ∈ vs', p ∈ vs) : Wl h₀ L os' vs' h :=
  let ⟨m, F, N, v⟩ := S
  ⟨m, F, fun p hp => N p (ho p hp), fun p hp => v p (hv p hp)⟩
theorem Wl.keep (S : Wl h₀ L os vs h) (k : Keep h h') : Wl h₀ L os vs h' :=
  let ⟨m, F, N, v⟩ := S
  ⟨m, F.keeps k, N.keepsAll k, v⟩
theorem Wl.off {wr : List Addr} (S : Wl h₀ L os vs h) (k : ∀ b o, b ∉ wr → h.get? b = some o → h'.get? b = some o) (hL : L ∉ wr) (h0 : ∀ b ∈ wr, h₀.get? b = none) (ho : ∀ p ∈ os, p.1 ∉ wr) : Wl h₀ L os vs h' :=
  let ⟨m, F, N, v⟩ := S
  ⟨m, frOff F k hL h0, fun p hp => ⟨k _ _ (ho p hp) (N p hp).1, (N p hp).2⟩, v⟩
theorem Wl.get (S : Wl h₀ L os vs h) {a : Addr} {o : Obj} (hm : (a, o) ∈ os) : h.get? a = some o := let ⟨_, _, N, _⟩ := S; N.get hm
theorem Wl.neL (S : Wl h₀ L os vs h) {a : Addr} {o : Obj} (hm : (a, o) ∈ os) : a ≠ L := let ⟨_, _, N, _⟩ := S; (N _ hm).2.1
theorem Wl.new (S : Wl h₀ L os vs h) {a : Addr} {o : Obj} (hm : (a, o) ∈ os) : h₀.get? a = none := let ⟨_, _, N, _⟩ := S; (N _ hm).2.2
theorem Wl.lt (S : Wl h₀ L os vs h) {a : Addr} {o : Obj} (hm : (a, o) ∈ os) : a < h.objs.size := Heap.lt_size (S.get hm)
theorem Wl.ltL (S : Wl h₀ L os vs h) : L < h.objs.size := let ⟨_, F, _, _⟩ := S; F.ns.lt
theorem Wl.old (S : Wl h₀ L os vs h) : Keep h₀ h := let ⟨_, F, _, _⟩ := S; F.keep
theorem Wl.gd {w : World} (S : Wl h₀ L os vs h) (G : Gd w h₀) : Gd w h := G.keep S.old
theorem Wl.list (S : Wl h₀ L os vs h) {a : Addr} {us : List Value} {n : Nat} (hm : (a, lstO us n) ∈ os) : h.IsList a us.toArray := ⟨_, S.get hm, rfl, n, rfl⟩
theorem Wl.tup (S : Wl h₀ L os vs h) {a : Addr} {us : List Value} (hm : (a, tupO us) ∈ os) : IsTup h a us.toArray := ⟨_, S.get hm, rfl, _, rfl⟩
theorem Wl.push (S : Wl h₀ L os vs h) (o : Obj) (hf : o.isFreed = false := by rfl) : Wl h₀ L ((h.objs.size, o) :: os) vs (h.push o) :=
  let ⟨m, F, N, v⟩ := S
  ⟨m, F.push o, News.push F N o hf, v⟩
/-- a new object behind which the heap only grew -/
theorem Wl.add (S : Wl h₀ L os vs h) {a : Addr} {o : Obj} (e : h.get? a = some o) (hL : a ≠ L) (h0 : h₀.get? a = none) : Wl h₀ L ((a, o) :: os) vs h := by
  obtain ⟨m, F, N, v⟩ := S
  refine ⟨m, F, fun p hp => ?_, v⟩
  rcases List.mem_cons.mp hp with rfl | hp
  · exact ⟨e, hL, h0⟩
  · exact N p hp
theorem Wl.fresh (S : Wl h₀ L os vs h) {a : Addr} (e : h.get? a = none) : a ≠ L ∧ h₀.get? a = none ∧ ∀ p ∈ os, p.1 ≠ a := by
  obtain ⟨m, F, N, _⟩ := S
  refine ⟨fun q => ?_, ?_, fun p hp q => ?_⟩
  · obtain ⟨o, _, _, ho, _⟩ := F.ns
    rw [← q, e] at ho; cases ho
  · cases e' : h₀.get? a with
    | none => rfl
    | some o => rw [F.keep a o e'] at e; cases e
  · rw [← q, (N p hp).1] at e; cases e
/-- one object of the ledger is written -/
theorem Wl.set {d : Addr} {o o' : Obj} (S : Wl h₀ L ((d, o) :: os) vs h) (hap : ∀ p ∈ os, p.1 ≠ d) (hk : ∀ b o, b ≠ d → h.get? b = some o → h'.get? b = some o) (ho : h'.get? d = some o') : Wl h₀ L ((d, o') :: os) vs h' :=
  let ⟨m, F, N, v⟩ := S
  ⟨m, frOff (wr := [d]) F (fun b o hb e => hk b o (by simpa using hb) e) (by simpa using Ne.symm (N _ (.head _)).2.1) (by simpa using (N _ (.head _)).2.2), fun p hp => by
    rcases List.mem_cons.mp hp with rfl | hp
    · exact ⟨ho, (N _ (.head _)).2⟩
    · exact ⟨hk _ _ (hap p hp) (N p (.tail _ hp)).1, (N p (.tail _ hp)).2⟩, v⟩
end

section
variable {M : Model} {A : Around} {E : Value → Shared → Prop} {s : Shared} {env : Env} {h₀ : Heap} {os : List (Addr × Obj)} {vs : List (Str × Value)}
theorem Wl.ld {x : Str} {v : Value} {pos : Pos} {Q : Value → Shared → Prop} (S : Wl h₀ env.locals os vs s.heap) (hm : (x, v) ∈ vs) (h : Q v s)
    (hk : env.scope.kind = .function := by rfl) (hl : env.kindOf x = some .local := by rfl) (hd : (x == ("__debug__" : Str)) = false := by decide) : wpAny M A (eval (.Name x pos) env) Q E s :=
  let ⟨_, F, _, hv⟩ := S
  wpAny_Name (wpAny_loadName_local hk hl F.ns (hv _ hm) h) hd
theorem Wl.ldn {x : Str} {v : Value} {Q : Value → Shared → Prop} (S : Wl h₀ env.locals os vs s.heap) (hm : (x, v) ∈ vs) (h : Q v s)
    (hk : env.scope.kind = .function := by rfl) (hl : env.kindOf x = some .local := by rfl) : wpAny M A (loadName env x) Q E s :=
  let ⟨_, F, _, hv⟩ := S
  wpAny_loadName_local hk hl F.ns (hv _ hm) h
theorem Wl.sto {x : Str} {v : Value} {Q : Unit → Shared → Prop} (vs' : List (Str × Value)) (S : Wl h₀ env.locals os vs s.heap) (h : ∀ h', Wl h₀ env.locals os ((x, v) :: vs') h' → KeepBut env.locals s.heap h' → Q () { s with heap := h', toks := s.toks + 1 })
    (hs : ∀ p ∈ vs', p ∈ vs ∧ p.1 ≠ x := by simp +decide)
    (hl : env.kindOf x = some .local := by rfl) (hp : (env.scope.kind == .class || (env.scope.kind == .module && env.locals != env.globals)) = false := by rfl) :
    wpAny M A (storeName env x v) Q E s := by
  obtain ⟨m, F, N, hv⟩ := S
  refine wpAny_storeName_local hl F.ns (fun h' hn hs' => h h' ⟨_, F.set hn hs', N.set hs', ?_⟩ fun b o hb e => hs'.extBut b o hb e) hp
  intro p hp
  rcases List.mem_cons.mp hp with rfl | hp
  · exact if_pos rfl
  · have := hs p hp
    exact oth (hv p this.1) this.2

theorem sub_tmp {prog : Program} {w : World} {value slice : Expr} {pos : Pos} {Q : Value → Shared → Prop}
    (h : wpAny (model prog w) A (eval value env) (fun o s₁ => wpAny (model prog w) A (eval slice env) (fun i s₂ => SubscriptOn (model prog w) A o i Q E s₂) E s₁) E s)
    (hs : ∀ o i, ∃ ops, subscripted slice false o i = operate ops (getItem o i) := by exact fun _ _ => ⟨_, rfl⟩) :
    wpAny (model prog w) A (eval (.Subscript value slice pos) env) Q E s := by
  refine Subscript_ (wpAny_mono h (fun o s₁ h₁ => wpAny_mono h₁ (fun i s₂ h₂ => ?_) fun _ _ e => e) fun _ _ e => e)
  obtain ⟨ops, ho⟩ := hs o i
  exact kba_turn (value' := .Name (Str.ofString "_") ⟨0, 0, 0, 0⟩) (fun _ => rfl) (tail_of_ItemOn h₂ ho fun r => rfl)

theorem execc_cut {st : Stmt} {rest : List Stmt} {Q : Flow → Shared → Prop} (P : Heap → Prop) (h1 : wpAny M A (exec st env) (fun f s' => f = .next ∧ ∃ h' tk', s' = { s with heap := h', toks := tk' } ∧ P h') NoE s)
    (h2 : ∀ h' tk', P h' → wpc M A (execs rest env) Q { s with heap := h', toks := tk' }) : wpc M A (execs (st :: rest) env) Q s := by
  refine wpc_execs_cons (wpc_any (wpAny_mono h1 (fun f s' h => ?_) fun _ _ e => e))
  obtain ⟨rfl, h', tk', rfl, hp⟩ := h
  exact h2 h' tk' hp
theorem execcc_cut {st : Stmt} {rest : List Stmt} {Q : Flow → Shared → Prop} (P : Heap → Prop) (h1 : wpc M A (exec st env) (fun f s' => f = .next ∧ ∃ h' tk', s' = { s with heap := h', toks := tk' } ∧ P h') s)
    (h2 : ∀ h' tk', P h' → wpc M A (execs rest env) Q { s with heap := h', toks := tk' }) : wpc M A (execs (st :: rest) env) Q s := by
  refine wpc_execs_cons (wpc_mono h1 fun f s' h => ?_)
  obtain ⟨rfl, h', tk', rfl, hp⟩ := h
  exact h2 h' tk' hp
theorem execs_one {st : Stmt} {Q : Flow → Shared → Prop} (h : wpAny M A (exec st env) Q E s) : wpAny M A (execs [st] env) Q E s := by
  refine wpAny_execs_cons (wpAny_mono h (fun f s' h' => ?_) fun _ _ e => e)
  cases f <;> first | exact wpAny_execs_nil h' | exact h'
end

section
variable {prog : Program} {w : World} {A : Around} {s : Shared} {env : Env}
/-- a for over an iterator that walks, its body in clean contexts -/
theorem Forc_walks {x : Str} {px pos : Pos} {iter : Expr} {body : List Stmt} {Q : Flow → Shared → Prop}
    (h : wpAny (model prog w) A (eval iter env) (fun xv s₁ => wpAny (model prog w) A (pyIter xv) (fun it s₂ => ∃ (I : Addr) (fp wr : List Addr) (n : Nat) (P : Nat → Value → Prop) (St : Nat → Heap → Prop) (J : Nat → Heap → Prop), it = .ref I ∧ Walks prog w A I fp wr n P St ∧ (∀ i h h', J i h → (∀ b o, b ∉ wr → h.get? b = some o → h'.get? b = some o) → J i h') ∧ St 0 s₂.heap ∧ J 0 s₂.heap ∧
      (∀ i v h tk, i < n → P i v → St (i + 1) h → J i h → wpAny (model prog w) A (storeName env x v) (fun _ s₃ => wpc (model prog w) A (execs body env) (fun f s₄ => f = .next ∧ ∃ h' tk', s₄ = { s₂ with heap := h', toks := tk' } ∧ J (i + 1) h' ∧ St (i + 1) h') s₃) NoE { s₂ with heap := h, toks := tk }) ∧
      (∀ h tk, J n h → Q .next { s₂ with heap := h, toks := tk })) NoE s₁) NoE s)
    (hs : ∀ x, foldedSetIterable iter env x = pure x := by intro _; rfl) :
    wpc (model prog w) A (exec (.For (.Name x px) iter body [] pos) env) Q s := by
  refine wpc_For (wpAny_mono h (fun xv s₁ h₁ => wpAny_mono h₁ (fun it s₂ h₂ => ?_) fun _ _ x => x) fun _ _ x => x) hs
  obtain ⟨I, fp, wr, n, P, St, J, rfl, W, hJk, hst, hJ, turn, done⟩ := h₂
  refine codec_forLoop (fun k s' => ∃ i h tk, i ≤ n ∧ k = n - i ∧ s' = { s₂ with heap := h, toks := tk } ∧ J i h ∧ St i h) ?_ n ⟨0, s₂.heap, s₂.toks, Nat.zero_le _, rfl, rfl, hJ, hst⟩
  rintro k s' ⟨i, h, tk, hi, rfl, rfl, hJi, hSt⟩
  by_cases hlt : i < n
  · refine W.item i _ _ _ hlt hSt fun v h₁ tk₁ hP hSt₁ hk₁ => ?_
    refine wpAny_assign_Name (wpAny_mono (turn i v h₁ tk₁ hlt hP hSt₁ (hJk i h h₁ hJi hk₁)) (fun _ s₃ h₃ => wpc_mono h₃ (fun f s₄ h₄ => ?_)) fun _ _ x => x)
    obtain ⟨rfl, h', tk', rfl, hJ', hSt'⟩ := h₄
    exact ⟨n - (i + 1), by omega, i + 1, h', tk', by omega, rfl, rfl, hJ', hSt'⟩
  · have hin : i = n := by omega
    subst hin
    refine W.done _ _ _ hSt fun h₁ tk₁ hk₁ => ?_
    exact done h₁ tk₁ (hJk i h h₁ hJi hk₁)
end
end Mine

end

section -- LC
set_option maxRecDepth 100000
namespace Mine
open PySem PySem.W PyProof.Rows PySem.Calls

/-- what a body is like -/
def GoodB (j : Nat) (x : Str) : Prop := Pl.Plain x.cps.toList ∧ (∀ c ∈ x.cps.toList, c < 256) ∧ x.cps.size ≤ 3 ∧ (j = 1 ∨ j = 2 → x.cps.toList ≠ [])

theorem menu_body {sg : Str} {c : Nat} (hs : sg.cps.toList = [c]) (h1 : c ≠ 10) (h2 : c ≠ 13) (h3 : c < 256) {t0 t1 t2 t3 t4 t5 t6 t7 : Tok} {j : Nat} (hj : j < 8) :
    ∃ z t, ([.str (Str.ofString "") t0, .str (Str.ofString ".") t1, .str (Str.ofString "..") t2, .str (Str.ofString ".a") t3, .str (Str.ofString "a.") t4, .str (Str.ofString ".a.") t5, .str (Str.ofString "a") t6, .str sg t7] : List Value)[j]? = some (.str z t) ∧
      Pl.Plain z.cps.toList ∧ (∀ c ∈ z.cps.toList, c < 256) ∧ z.cps.size ≤ 3 := by
  have f : ∀ {z : Str} {l : List Nat}, z.cps.toList = l → (l.all fun c => decide (c ≠ 10 ∧ c ≠ 13 ∧ c < 256)) = true → l.length ≤ 3 → Pl.Plain z.cps.toList ∧ (∀ c ∈ z.cps.toList, c < 256) ∧ z.cps.size ≤ 3 := by
    intro z l e ha hl
    rw [List.all_eq_true] at ha
    refine ⟨fun c hc => ?_, fun c hc => ?_, by rw [← Array.length_toList, e]; exact hl⟩
    · have := of_decide_eq_true (ha c (e ▸ hc)); exact ⟨this.1, this.2.1⟩
    · have := of_decide_eq_true (ha c (e ▸ hc)); exact this.2.2
  match j, hj with
  | 0, _ => exact ⟨_, _, rfl, f (l := []) (by decide +kernel) (by decide) (by decide)⟩
  | 1, _ => exact ⟨_, _, rfl, f (l := [46]) (by decide +kernel) (by decide) (by decide)⟩
  | 2, _ => exact ⟨_, _, rfl, f (l := [46, 46]) (by decide +kernel) (by decide) (by decide)⟩
  | 3, _ => exact ⟨_, _, rfl, f (l := [46, 97]) (by decide +kernel) (by decide) (by decide)⟩
  | 4, _ => exact ⟨_, _, rfl, f (l := [97, 46]) (by decide +kernel) (by decide) (by decide)⟩
  | 5, _ => exact ⟨_, _, rfl, f (l := [46, 97, 46]) (by decide +kernel) (by decide) (by decide)⟩
  | 6, _ => exact ⟨_, _, rfl, f (l := [97]) (by decide +kernel) (by decide) (by decide)⟩
  | 7, _ => exact ⟨_, _, rfl, f (l := [c]) hs (by simp [h1, h2, h3]) (by simp)⟩

theorem ints_at : ∀ {us : List Value} {ns : List Int}, IntsAre us ns → ∀ (i : Nat) (v : Value), us[i]? = some v → ∃ n t, ns[i]? = some n ∧ v = .int n t
  | _, _, .nil, i, v, h => by simp at h
  | _, _, .cons n t _, 0, v, h => by simp at h; subst h; exact ⟨n, t, rfl, rfl⟩
  | _, _, .cons n t r, i + 1, v, h => by simpa using ints_at r i v (by simpa using h)
theorem ints_of : ∀ {us : List Value}, (∀ (i : Nat) (v : Value), us[i]? = some v → ∃ n t, v = .int n t) → ∃ xs, IntsAre us xs ∧ xs.length = us.length
  | [], _ => ⟨[], .nil, rfl⟩
  | u :: us, h => by
    obtain ⟨n, t, rfl⟩ := h 0 u rfl
    obtain ⟨xs, h1, h2⟩ := ints_of (us := us) fun i v hv => h (i + 1) v (by simpa using hv)
    exact ⟨n :: xs, .cons n t h1, by simp [h2]⟩

theorem seven (t : Tok) : IntsAre (List.foldl (fun x1 x2 => x1 ++ x2) #[] (List.replicate (if ([Value.int 0 t] : List Value).toArray.isEmpty = true then 0 else (7 : Int).toNat) ([Value.int 0 t] : List Value).toArray)).toList [0, 0, 0, 0, 0, 0, 0] := by
  show IntsAre [Value.int 0 t, Value.int 0 t, Value.int 0 t, Value.int 0 t, Value.int 0 t, Value.int 0 t, Value.int 0 t] _
  exact .cons _ _ (.cons _ _ (.cons _ _ (.cons _ _ (.cons _ _ (.cons _ _ (.cons _ _ .nil))))))

theorem adds (t1 t2 t3 t4 t5 t6 t7 : Tok) : IntsAre [.int 5 t1, .int 2 t2, .int 4 t3, .int 1 t4, .int 3 t5, .int 6 t6, .int 2 t7] [5, 2, 4, 1, 3, 6, 2] :=
  .cons _ _ (.cons _ _ (.cons _ _ (.cons _ _ (.cons _ _ (.cons _ _ (.cons _ _ .nil))))))

section
variable {prog : Program} {w : World} {A : Around} {E : Value → Shared → Prop} {s : Shared} {env : Env} {h₀ : Heap} {L : Addr} {os : List (Addr × Obj)} {vs : List (Str × Value)}

theorem Wl.newList {M : Model} {us : List Value} {Q : Value → Shared → Prop} (S : Wl h₀ L os vs s.heap) (h : ∀ h' D, Wl h₀ L ((D, lstO us 0) :: os) vs h' → Q (.ref D) { s with heap := h' }) (hsz : us.length ≤ 1000 := by simp) :
    wpAny M A (newList us) Q E s := by
  have e2 : sizeLine = 16777216 := by decide
  exact wpAny_newObj_type (h _ _ (S.push _)) (by show us.toArray.size ≤ sizeLine; rw [List.size_toArray]; omega)
theorem Wl.newList' {M : Model} {us : List Value} {Q : Value → Shared → Prop} (S : Wl h₀ L os vs s.heap) (h : ∀ h' D, (∀ p ∈ os, p.1 ≠ D) → Wl h₀ L ((D, lstO us 0) :: os) vs h' → Q (.ref D) { s with heap := h' }) (hsz : us.length ≤ 1000 := by simp) :
    wpAny M A (PySem.newList us) Q E s := by
  have e2 : sizeLine = 16777216 := by decide
  exact wpAny_newObj_type (h _ _ (fun p hp => Nat.ne_of_lt (S.lt hp)) (S.push _)) (by show us.toArray.size ≤ sizeLine; rw [List.size_toArray]; omega)
theorem Wl.newTuple {M : Model} {us : List Value} {Q : Value → Shared → Prop} (S : Wl h₀ L os vs s.heap) (h : ∀ h' D, Wl h₀ L ((D, tupO us) :: os) vs h' → Q (.ref D) { s with heap := h' }) (hsz : us.length ≤ 1000 := by simp) :
    wpAny M A (newTuple us) Q E s := by
  have e2 : sizeLine = 16777216 := by decide
  exact wpAny_newObj_type (h _ _ (S.push _)) (by show us.toArray.size ≤ sizeLine; rw [List.size_toArray]; omega)
theorem Wl.addLists {l b : Addr} {us ws : List Value} {Q : Value → Shared → Prop} (S : Wl h₀ L os vs s.heap) (hl : s.heap.IsList l us.toArray) (hb : s.heap.IsList b ws.toArray)
    (h : ∀ h' D, Wl h₀ L ((D, lstO (us ++ ws) 0) :: os) vs h' → Q (.ref D) { s with heap := h' }) (hsz : us.length + ws.length ≤ 1000) : wpAny (model prog w) A (binaryOp .Add (.ref l) (.ref b)) Q E s := by
  have e2 : sizeLine = 16777216 := by decide
  obtain ⟨m, F, N, v⟩ := S
  exact add_lists F N hl hb (fun h' F' N' => h h' _ ⟨m, F', N', v⟩) (by omega)
theorem Wl.mulList {l : Addr} {us : List Value} {k : Nat} {x : Int} {u : Tok} {Q : Value → Shared → Prop} (S : Wl h₀ L os vs s.heap) (hm : (l, lstO us k) ∈ os) (hx : 0 ≤ x) (hsz : us.length * x.toNat ≤ 1000)
    (h : ∀ h' D, Wl h₀ L ((D, lstO (List.foldl (fun x1 x2 => x1 ++ x2) #[] (List.replicate (if us.toArray.isEmpty = true then 0 else x.toNat) us.toArray)).toList 0) :: os) vs h' → Q (.ref D) { s with heap := h' }) (hx' : x ≤ 1000) :
    wpAny (model prog w) A (binaryOp .Mult (.ref l) (.int x u)) Q E s := by
  obtain ⟨m, F, N, v⟩ := S
  exact mul_list F N (N.get hm) (by omega) (by omega) (by simp; omega) fun h' F' N' => h h' _ ⟨m, F', N', v⟩

theorem slice_of {value : Expr} {lower upper : Option Expr} {p pos : Pos} {Q : Value → Shared → Prop}
    (h : wpAny (model prog w) A (eval value env) (fun o s₁ => wpAny (model prog w) A (evalPart lower env) (fun vl s₂ => wpAny (model prog w) A (evalPart upper env) (fun vu s₃ =>
      ∃ (l : Addr) (us : List Value) (lo hi : Option Int) (os : List (Addr × Obj)) (vs : List (Str × Value)), o = .ref l ∧ IsPart vl lo ∧ IsPart vu hi ∧ s₃.heap.IsList l us.toArray ∧ us.length ≤ 1000 ∧ Wl h₀ L os vs s₃.heap ∧
        ∀ h' D, Wl h₀ L ((D, lstO (slicePick us.toArray lo hi none).toList 0) :: os) vs h' → Q (.ref D) { s₃ with heap := h' }) E s₂) E s₁) E s) :
    wpAny (model prog w) A (eval (.Subscript value (.Slice lower upper none p) pos) env) Q E s := by
  have e2 : sizeLine = 16777216 := by decide
  refine Subscript_ (wpAny_mono h (fun o s₁ h₁ => wpAny_Slice (wpAny_mono h₁ (fun vl s₂ h₂ => wpAny_mono h₂ (fun vu s₃ h₃ => ?_) fun _ _ e => e) fun _ _ e => e)) fun _ _ e => e)
  obtain ⟨l, us, lo, hi, os, vs, rfl, pl, pu, hl, hsz, ⟨m, F, N, v⟩, hQ⟩ := h₃
  refine evalPart_none_step ?_
  refine kba_turn (value' := .Name (Str.ofString "_") ⟨0, 0, 0, 0⟩) (fun _ => rfl) ?_
  exact slice_list F N hl pl pu (fun h' F' N' => hQ h' _ ⟨m, F', N', v⟩) (hs := by with_unfolding_all rfl) (ht := fun _ => rfl) (hsz := by rw [List.size_toArray]; omega)

theorem Wl.zip {l1 l2 : Addr} {xs ys : Array Value} {Q : Value → Shared → Prop} (S : Wl h₀ L os vs s.heap) (hA : A.handled = none) (hl1 : s.heap.IsList l1 xs) (hl2 : s.heap.IsList l2 ys)
    (k : ∀ h' z fp wr Pt St Mid, WalksT prog w A z fp wr (min xs.size ys.size) Pt St Mid → St 0 h' → (∀ c ∈ fp, c < h'.objs.size) → (∀ i vals, Pt i vals → ∃ x y, xs[i]? = some x ∧ ys[i]? = some y ∧ vals = #[x, y]) →
      Wl h₀ L os vs h' → L ∉ wr → (∀ b ∈ wr, h₀.get? b = none) → (∀ p ∈ os, p.1 ∉ wr) → Q (.ref z) { s with heap := h' }) :
    wpAny (model prog w) A (call (.type "zip") [.ref l1, .ref l2]) Q E s := by
  have a1 : l1 < s.heap.objs.size := by obtain ⟨_, e, _⟩ := hl1; exact Heap.lt_size e
  have a2 : l2 < s.heap.objs.size := by obtain ⟨_, e, _⟩ := hl2; exact Heap.lt_size e
  refine call_zip_2 hl1 hl2 fun h' hz hTI hTO hi1 hi2 hsz hk => ?_
  have D := zipApart_new a1 a2
  have hLs := S.ltL
  have hwr : ∀ b ∈ [s.heap.objs.size + 4, s.heap.objs.size + 3, s.heap.objs.size, s.heap.objs.size + 1], s.heap.objs.size ≤ b := by
    intro b hb
    simp only [List.mem_cons, List.not_mem_nil, or_false] at hb
    rcases hb with rfl | rfl | rfl | rfl
    · exact Nat.le_add_right _ 4
    · exact Nat.le_add_right _ 3
    · exact Nat.le_refl _
    · exact Nat.le_add_right _ 1
  refine k h' _ _ _ _ _ _ (WalksT.zip2 hA _ _ _ _ _ _ _ D xs ys) ⟨hz, hTI, ⟨_, _, hTO⟩, hi1, hi2, hl1.at fun o e => hk _ o e, hl2.at fun o e => hk _ o e⟩ ?_ (fun i vals h => h) (S.keep hk) (fun hm => absurd (hwr _ hm) (Nat.not_le_of_lt hLs)) (fun b hb => fresh_none S.old (hwr b hb)) fun p hp hm => absurd (hwr _ hm) (Nat.not_le_of_lt (S.lt hp))
  intro c hc
  rw [hsz]
  simp only [List.mem_cons, List.not_mem_nil, or_false] at hc
  have f : ∀ k, k < 5 → s.heap.objs.size + k < s.heap.objs.size + 5 := fun k hk => Nat.add_lt_add_left hk _
  rcases hc with rfl | rfl | rfl | rfl | rfl | rfl | rfl
  · exact f 4 (by decide)
  · exact f 2 (by decide)
  · exact f 3 (by decide)
  · exact f 0 (by decide)
  · exact f 1 (by decide)
  · exact Nat.lt_of_lt_of_le a1 (Nat.le_add_right _ 5)
  · exact Nat.lt_of_lt_of_le a2 (Nat.le_add_right _ 5)
end
end Mine

end

section -- LD
set_option maxRecDepth 100000
namespace Mine
open PySem PySem.W PyProof.Rows PySem.Calls

section
variable (w : World)
theorem g_ends : nsIn (KK w) mainGlobals "_law_ends" = some (some (.ref 79)) := by kernel_rfl
theorem g_octets : nsIn (KK w) mainGlobals "_law_octets" = some (some (.ref 84)) := by kernel_rfl
theorem g_text : nsIn (KK w) mainGlobals "_law_text" = some (some (.ref 89)) := by kernel_rfl
theorem g_told : nsIn (KK w) mainGlobals "_law_told" = some (some (.ref 94)) := by kernel_rfl
theorem g_swap : nsIn (KK w) mainGlobals "_byteswap" = some (some (.ref 74)) := by kernel_rfl
theorem g_fix : nsIn (KK w) mainGlobals "_fix_eols" = some (some (.ref 67)) := by kernel_rfl
theorem g_periods : nsIn (KK w) mainGlobals "_quote_periods" = some (some (.ref 60)) := by kernel_rfl
theorem g_quotedata : nsIn (KK w) mainGlobals "quotedata" = some (some (.ref 53)) := by kernel_rfl
def IsFn (f : Addr) : Prop := ∃ o fd, (KK w).lookup f = some o ∧ o.data = .func fd
theorem fn_ends : IsFn w 79 := ⟨_, _, by rfl, by rfl⟩
theorem fn_octets : IsFn w 84 := ⟨_, _, by rfl, by rfl⟩
theorem fn_text : IsFn w 89 := ⟨_, _, by rfl, by rfl⟩
theorem fn_told : IsFn w 94 := ⟨_, _, by rfl, by rfl⟩
theorem fn_swap : IsFn w 74 := ⟨_, _, by rfl, by rfl⟩
theorem fn_fix : IsFn w 67 := ⟨_, _, by rfl, by rfl⟩
theorem fn_periods : IsFn w 60 := ⟨_, _, by rfl, by rfl⟩
theorem fn_quotedata : IsFn w 53 := ⟨_, _, by rfl, by rfl⟩
end

section
variable {prog : Program} {w : World} {A : Around} {E : Value → Shared → Prop} {s : Shared} {env : Env}
/-- a call of a def of the text -/
theorem gcall {x : Str} {np pos : Pos} {f : Addr} {e : Expr} {rest : List Expr} {Q : Value → Shared → Prop} (G : Gd w s.heap) (g : nsIn (KK w) mainGlobals x = some (some (.ref f))) (hf : IsFn w f)
    (h : wpAny (model prog w) A (spliced (backTo pos (starEach (e :: rest) env))) (fun vs s₁ => Gd w s₁.heap ∧ wpAny (model prog w) A (call (.ref f) vs) Q E s₁) E s)
    (he : starEach (e :: rest) env = (false, eval e env) :: starEach rest env := by rfl)
    (hg : env.globals = mainGlobals := by rfl) (hk : env.scope.kind = .function := by rfl) (hx : env.kindOf x = some .globalImplicit := by rfl) (hd : (x == ("__debug__" : Str)) = false := by decide) :
    wpAny (model prog w) A (eval (.Call (.Name x np) (e :: rest) [] pos) env) Q E s := by
  obtain ⟨o, fd, ho, hdat⟩ := hf
  refine wpAny_Call_ofName ?_
  refine name_g (w := w) G g ?_ (hg := hg) (hk := hk) (hx := hx) (hd := hd)
  exact callWith_def (o := o) hdat (wpAny_mono h (fun vs s₁ h₁ => ⟨h₁.1.K _ _ ho, h₁.2⟩) fun _ _ e => e) he
theorem gcallc {x : Str} {np pos : Pos} {f : Addr} {args : List Expr} {Q : Value → Shared → Prop} (G : Gd w s.heap) (g : nsIn (KK w) mainGlobals x = some (some (.ref f))) (hf : IsFn w f)
    (hplain : (backTo pos (starEach args env)).any (·.1) = false) (hn : ¬ (backTo pos (starEach args env)).length + 2 * ([] : List (Option Str × Sem Value)).length > 30)
    (h : wpc (model prog w) A (evalArgs (.ref f) true (backTo pos (starEach args env)) []) (fun a s₁ => Gd w s₁.heap ∧ wpc (model prog w) A (call (.ref f) a.pos a.kw) Q s₁) s)
    (hg : env.globals = mainGlobals := by rfl) (hk : env.scope.kind = .function := by rfl) (hx : env.kindOf x = some .globalImplicit := by rfl) (hd : (x == ("__debug__" : Str)) = false := by decide) :
    wpc (model prog w) A (eval (.Call (.Name x np) args [] pos) env) Q s := by
  obtain ⟨o, fd, ho, hdat⟩ := hf
  refine wpc_Call_ofName ?_
  refine name_g (w := w) G g ?_ (hg := hg) (hk := hk) (hx := hx) (hd := hd)
  exact wpc_callWith_fn (o := o) (fd := fd) hplain hn (wpc_mono h fun a s₁ h₁ => ⟨⟨h₁.1.K _ _ ho, hdat⟩, h₁.2⟩)
end

/-- the runs that the law can take -/
def runTable : List (List Nat) := [[13, 10], [10], [13], [10, 13], [13, 13], [10, 10], [13, 10, 10], [10, 13, 10, 13]]
def IsRun (x : Str) : Prop := x.cps.toList ∈ runTable
def opensL (l : List Nat) (k : Nat) : Bool := l.getD k 0 == 13 || (k == 0 || l.getD (k - 1) 0 != 13)
theorem menu_run {t0 t1 t2 t3 t4 t5 t6 t7 : Tok} {j : Nat} (hj : j < 8) :
    ∃ z t, ([.str (Str.ofString "\r\n") t0, .str (Str.ofString "\n") t1, .str (Str.ofString "\r") t2, .str (Str.ofString "\n\r") t3, .str (Str.ofString "\r\r") t4, .str (Str.ofString "\n\n") t5, .str (Str.ofString "\r\n\n") t6, .str (Str.ofString "\n\r\n\r") t7] : List Value)[j]? = some (.str z t) ∧ IsRun z := by
  match j, hj with
  | 0, _ => exact ⟨_, _, rfl, by unfold IsRun; decide +kernel⟩
  | 1, _ => exact ⟨_, _, rfl, by unfold IsRun; decide +kernel⟩
  | 2, _ => exact ⟨_, _, rfl, by unfold IsRun; decide +kernel⟩
  | 3, _ => exact ⟨_, _, rfl, by unfold IsRun; decide +kernel⟩
  | 4, _ => exact ⟨_, _, rfl, by unfold IsRun; decide +kernel⟩
  | 5, _ => exact ⟨_, _, rfl, by unfold IsRun; decide +kernel⟩
  | 6, _ => exact ⟨_, _, rfl, by unfold IsRun; decide +kernel⟩
  | 7, _ => exact ⟨_, _, rfl, by unfold IsRun; decide +kernel⟩
theorem run_facts : ∀ l ∈ runTable, ((List.range l.length).filter (opensL l)).length = Pl.ends l ∧ 1 ≤ Pl.ends l ∧ Pl.ends l ≤ 4 ∧ l.length ≤ 4 ∧ ∀ c ∈ l, c = 10 ∨ c = 13 := by decide +kernel
theorem IsRun.count {x : Str} (h : IsRun x) : ((List.range x.cps.size).filter (opens x)).length = Pl.ends x.cps.toList := by
  have := (run_facts _ h).1
  rw [Array.length_toList] at this
  exact this
theorem IsRun.lo {x : Str} (h : IsRun x) : 1 ≤ Pl.ends x.cps.toList := (run_facts _ h).2.1
theorem IsRun.hi {x : Str} (h : IsRun x) : Pl.ends x.cps.toList ≤ 4 := (run_facts _ h).2.2.1
theorem IsRun.size {x : Str} (h : IsRun x) : x.cps.size ≤ 4 := by have := (run_facts _ h).2.2.2.1; rwa [Array.length_toList] at this
theorem IsRun.only {x : Str} (h : IsRun x) : Pl.OnlyEnds x.cps.toList := (run_facts _ h).2.2.2.2

/-- lists of strs -/
theorem strs_of : ∀ {us : List Value} {P : Nat → Str → Prop}, (∀ (i : Nat) (v : Value), us[i]? = some v → ∃ z t, v = .str z t ∧ P i z) → ∃ ps : List (Str × Tok), us = strValues ps ∧ ∀ i q, ps[i]? = some q → P i q.1
  | [], _, _ => ⟨[], rfl, fun i q h => by simp at h⟩
  | u :: us, P, h => by
    obtain ⟨z, t, rfl, hz⟩ := h 0 u rfl
    obtain ⟨ps, h1, h2⟩ := strs_of (us := us) (P := fun i => P (i + 1)) fun i v hv => h (i + 1) v (by simpa using hv)
    refine ⟨(z, t) :: ps, by rw [h1]; rfl, fun i q hq => ?_⟩
    cases i with
    | zero => simp at hq; subst hq; exact hz
    | succ i => exact h2 i q (by simpa using hq)
theorem strv_at {ps : List (Str × Tok)} {i : Nat} {x : Value} (h : (strValues ps)[i]? = some x) : ∃ q, ps[i]? = some q ∧ x = .str q.1 q.2 := by
  simp only [strValues, List.getElem?_map, Option.map_eq_some_iff] at h
  obtain ⟨q, h1, h2⟩ := h
  exact ⟨q, h1, h2.symm⟩
theorem paired_at {α β : Type} {F : α → β → Prop} : ∀ {xs : List α} {ys : List β}, Paired F xs ys → ∀ (i : Nat) (y : β), ys[i]? = some y → ∃ x, xs[i]? = some x ∧ F x y
  | _, _, .nil, i, y, h => by simp at h
  | _, _, .cons hf r, 0, y, h => by simp at h; subst h; exact ⟨_, rfl, hf⟩
  | _, _, .cons hf r, i + 1, y, h => by simpa using paired_at r i y (by simpa using h)
theorem four_of {α : Type} {l : List α} (h : l.length = 4) : ∃ a b c d, l = [a, b, c, d] := by
  match l, h with
  | [a, b, c, d], _ => exact ⟨a, b, c, d, rfl⟩
theorem three_of {α : Type} {l : List α} (h : l.length = 3) : ∃ a b c, l = [a, b, c] := by
  match l, h with
  | [a, b, c], _ => exact ⟨a, b, c, rfl⟩
end Mine

end

section -- PM
set_option maxRecDepth 100000
namespace Mine
open PySem PySem.W PyProof.Rows PySem.Calls

namespace Pl
theorem row_len (b : List Nat) (a c : Nat) : (row b a c).length ≤ b.length + a + c := by
  unfold row
  simp only [List.length_append, List.length_replicate]
  split <;> split <;> omega
theorem lay_len (r0 r1 r2 r3 : List Nat) (n0 n1 n2 : Nat) (torn : Bool) : (lay r0 r1 r2 r3 n0 n1 n2 torn).length = r0.length + r1.length + r2.length + r3.length + 2 * (n0 + n1 + n2) := by
  simp only [lay, List.length_append, pairs_length]; omega
theorem told_len (b0 b1 b2 b3 : List Nat) (e0 e1 e2 : Nat) (t : Tale) :
    (told b0 b1 b2 b3 e0 e1 e2 t).length ≤ b0.length + b1.length + b2.length + b3.length + 4 * (t.front + t.back) + t.head + t.tail + 2 * (e0 + e1 + e2 + 3 * t.more) := by
  have h0 := row_len b0 (t.front + t.head) t.back
  have h1 := row_len b1 t.front t.back
  have h2 := row_len b2 t.front t.back
  have h3 := row_len b3 t.front (t.back + t.tail)
  unfold told
  split
  · rw [lay_len]; simp only [List.length_reverse]; omega
  · rw [lay_len]; omega
theorem told_pos {b0 b1 b2 b3 : List Nat} {e0 e1 e2 : Nat} (h : b1 ≠ []) (t : Tale) : 0 < (told b0 b1 b2 b3 e0 e1 e2 t).length := by
  have h1 := List.length_pos_iff.mpr (row_ne h t.front t.back)
  unfold told
  split
  · rw [lay_len]; simp only [List.length_reverse]; omega
  · rw [lay_len]; omega
theorem row_chars {b : List Nat} (h : ∀ c ∈ b, c < 256) (a c : Nat) : ∀ x ∈ row b a c, x < 256 := by
  intro x hx
  simp only [row, List.mem_append, List.mem_replicate] at hx
  rcases hx with ⟨_, rfl⟩ | hx | ⟨_, rfl⟩
  · decide
  · exact h x hx
  · decide
theorem pairs_chars (torn : Bool) (n : Nat) : ∀ x ∈ pairs torn n, x < 256 := by
  induction n with
  | zero => intro x hx; simp [pairs] at hx
  | succ n ih =>
    intro x hx
    rw [pairs, List.mem_append] at hx
    rcases hx with hx | hx
    · cases torn
      · simp at hx; omega
      · simp at hx; omega
    · exact ih x hx
theorem lay_chars {r0 r1 r2 r3 : List Nat} (h0 : ∀ c ∈ r0, c < 256) (h1 : ∀ c ∈ r1, c < 256) (h2 : ∀ c ∈ r2, c < 256) (h3 : ∀ c ∈ r3, c < 256) (n0 n1 n2 : Nat) (torn : Bool) : ∀ x ∈ lay r0 r1 r2 r3 n0 n1 n2 torn, x < 256 := by
  intro x hx
  simp only [lay, List.mem_append] at hx
  rcases hx with hx | hx | hx | hx | hx | hx | hx
  · exact h0 x hx
  · exact pairs_chars _ _ x hx
  · exact h1 x hx
  · exact pairs_chars _ _ x hx
  · exact h2 x hx
  · exact pairs_chars _ _ x hx
  · exact h3 x hx
theorem told_chars {b0 b1 b2 b3 : List Nat} (h0 : ∀ c ∈ b0, c < 256) (h1 : ∀ c ∈ b1, c < 256) (h2 : ∀ c ∈ b2, c < 256) (h3 : ∀ c ∈ b3, c < 256) (e0 e1 e2 : Nat) (t : Tale) : ∀ x ∈ told b0 b1 b2 b3 e0 e1 e2 t, x < 256 := by
  have rv : ∀ {l : List Nat}, (∀ c ∈ l, c < 256) → ∀ c ∈ l.reverse, c < 256 := fun h c hc => h c (List.mem_reverse.mp hc)
  unfold told
  split
  · exact lay_chars (rv (row_chars h3 _ _)) (rv (row_chars h2 _ _)) (rv (row_chars h1 _ _)) (rv (row_chars h0 _ _)) _ _ _ _
  · exact lay_chars (row_chars h0 _ _) (row_chars h1 _ _) (row_chars h2 _ _) (row_chars h3 _ _) _ _ _ _
end Pl

theorem TD.text_eq (d : TD) {q0 q1 q2 q3 : Str × Tok} {e0 e1 e2 : Nat} (hp : d.ps = [q0, q1, q2, q3]) (he : d.en = [e0, e1, e2]) :
    d.text = Pl.told q0.1.cps.toList q1.1.cps.toList q2.1.cps.toList q3.1.cps.toList e0 e1 e2 ⟨d.fro, d.torn, d.more, d.front, d.back, d.head, d.tail⟩ := by
  have r4 : List.range 4 = [0, 1, 2, 3] := by decide
  unfold TD.text TD.part TD.rowAt TD.endAt TD.body Pl.told Pl.lay
  rw [r4, hp, he]
  cases d.fro <;> simp
end Mine

end

section -- LE
set_option maxRecDepth 100000
namespace Mine
open PySem PySem.W PyProof.Rows PySem.Calls

/-- the counters as the names hold them -/
structure Cn where
  fi : Int
  ti : Int
  mo : Int
  fr : Int
  bk : Int
  hd : Int
  tl : Int
  tf : Tok
  tt : Tok
  tm : Tok
  k0 : Tok
  k1 : Tok
  k2 : Tok
  k3 : Tok
structure Cn.Of (c : Cn) (t : Pl.Tale) : Prop where
  fi : c.fi = if t.fro then 1 else 0
  ti : c.ti = if t.torn then 1 else 0
  mo : c.mo = t.more
  fr : c.fr = t.front
  bk : c.bk = t.back
  hd : c.hd = t.head
  tl : c.tl = t.tail

theorem Cn.Of.turn {c : Cn} {t : Pl.Tale} (o : c.Of t) (a b : Tok) : Cn.Of { c with fi := 1 - c.fi, ti := 1 - c.ti, tf := a, tt := b } t.turn where
  fi := by show 1 - c.fi = if (!t.fro) = true then 1 else 0; rw [o.fi]; cases t.fro <;> decide
  ti := by show 1 - c.ti = if (!t.torn) = true then 1 else 0; rw [o.ti]; cases t.torn <;> decide
  mo := o.mo
  fr := o.fr
  bk := o.bk
  hd := o.hd
  tl := o.tl
theorem Cn.Of.mend {c : Cn} {t : Pl.Tale} (o : c.Of t) (a b : Tok) : Cn.Of { c with mo := c.mo + c.ti, ti := 0, tm := a, tt := b } t.mend where
  fi := o.fi
  ti := rfl
  mo := by show c.mo + c.ti = ((t.more + t.torn.toNat : Nat) : Int); rw [o.ti, o.mo]; cases t.torn <;> simp
  fr := o.fr
  bk := o.bk
  hd := o.hd
  tl := o.tl
theorem Cn.Of.dots_torn {c : Cn} {t : Pl.Tale} (o : c.Of t) (ht : t.torn = true) (a b : Tok) : Cn.Of { c with hd := c.hd + (1 - c.fi), tl := c.tl + c.fi, k2 := a, k3 := b } t.dots := by
  have e1 := o.fi
  have e2 := o.hd
  have e3 := o.tl
  unfold Pl.Tale.dots
  rw [if_pos ht]
  by_cases hf : t.fro = true
  case neg =>
    rw [if_neg hf]
    rw [if_neg hf] at e1
    exact ⟨o.fi, o.ti, o.mo, o.fr, o.bk, by show c.hd + (1 - c.fi) = ((t.head + 1 : Nat) : Int); rw [e1, e2]; simp, by show c.tl + c.fi = t.tail; rw [e1, e3]; simp⟩
  case pos =>
    rw [if_pos hf]
    rw [if_pos hf] at e1
    exact ⟨o.fi, o.ti, o.mo, o.fr, o.bk, by show c.hd + (1 - c.fi) = t.head; rw [e1, e2]; simp, by show c.tl + c.fi = ((t.tail + 1 : Nat) : Int); rw [e1, e3]; simp⟩
theorem Cn.Of.dots_whole {c : Cn} {t : Pl.Tale} (o : c.Of t) (ht : t.torn = false) (a b : Tok) : Cn.Of { c with fr := c.fr + (1 - c.fi), bk := c.bk + c.fi, k0 := a, k1 := b } t.dots := by
  have e1 := o.fi
  have e2 := o.fr
  have e3 := o.bk
  unfold Pl.Tale.dots
  rw [if_neg (by rw [ht]; decide)]
  by_cases hf : t.fro = true
  case neg =>
    rw [if_neg hf]
    rw [if_neg hf] at e1
    exact ⟨o.fi, o.ti, o.mo, by show c.fr + (1 - c.fi) = ((t.front + 1 : Nat) : Int); rw [e1, e2]; simp, by show c.bk + c.fi = t.back; rw [e1, e3]; simp, o.hd, o.tl⟩
  case pos =>
    rw [if_pos hf]
    rw [if_pos hf] at e1
    exact ⟨o.fi, o.ti, o.mo, by show c.fr + (1 - c.fi) = t.front; rw [e1, e2]; simp, by show c.bk + c.fi = ((t.back + 1 : Nat) : Int); rw [e1, e3]; simp, o.hd, o.tl⟩

/-- each counter is at most n -/
structure Bd (t : Pl.Tale) (n : Nat) : Prop where
  mo : t.more ≤ n
  fr : t.front ≤ n
  bk : t.back ≤ n
  hd : t.head ≤ n
  tl : t.tail ≤ n
theorem Bd.up {t : Pl.Tale} {n m : Nat} (b : Bd t n) (h : n ≤ m) : Bd t m := ⟨Nat.le_trans b.mo h, Nat.le_trans b.fr h, Nat.le_trans b.bk h, Nat.le_trans b.hd h, Nat.le_trans b.tl h⟩
theorem Bd.turn {t : Pl.Tale} {n : Nat} (b : Bd t n) : Bd t.turn n := ⟨b.mo, b.fr, b.bk, b.hd, b.tl⟩
theorem Bd.mend {t : Pl.Tale} {n : Nat} (b : Bd t n) : t.mend.more ≤ n + 1 ∧ t.mend.front ≤ n ∧ t.mend.back ≤ n ∧ t.mend.head ≤ n ∧ t.mend.tail ≤ n := by
  refine ⟨?_, b.fr, b.bk, b.hd, b.tl⟩
  have := b.mo
  have := Bool.toNat_le t.torn
  show t.more + t.torn.toNat ≤ n + 1
  omega

/-- what the first test of a turn makes of the tale, and what the whole turn makes of it -/
def mid (n : Int) (t : Pl.Tale) : Pl.Tale := if n = 1 then t.turn else if n = 2 then t else t.mend
def fin (n : Int) (t : Pl.Tale) : Pl.Tale := if n = 0 ∨ n = 2 then (mid n t).dots else mid n t
theorem dots_bd {t : Pl.Tale} {n : Nat} (h1 : t.more ≤ n + 1) (h2 : t.front ≤ n) (h3 : t.back ≤ n) (h4 : t.head ≤ n) (h5 : t.tail ≤ n) : Bd t.dots (n + 1) := by
  unfold Pl.Tale.dots
  split
  · split
    · exact ⟨h1, by show t.front ≤ _; omega, by show t.back ≤ _; omega, by show t.head ≤ _; omega, by show t.tail + 1 ≤ _; omega⟩
    · exact ⟨h1, by show t.front ≤ _; omega, by show t.back ≤ _; omega, by show t.head + 1 ≤ _; omega, by show t.tail ≤ _; omega⟩
  · split
    · exact ⟨h1, by show t.front ≤ _; omega, by show t.back + 1 ≤ _; omega, by show t.head ≤ _; omega, by show t.tail ≤ _; omega⟩
    · exact ⟨h1, by show t.front + 1 ≤ _; omega, by show t.back ≤ _; omega, by show t.head ≤ _; omega, by show t.tail ≤ _; omega⟩
theorem Bd.fin {t : Pl.Tale} {k : Nat} (b : Bd t k) (n : Int) : Bd (fin n t) (k + 1) := by
  have hm : (mid n t).more ≤ k + 1 ∧ (mid n t).front ≤ k ∧ (mid n t).back ≤ k ∧ (mid n t).head ≤ k ∧ (mid n t).tail ≤ k := by
    unfold mid
    split
    · exact ⟨Nat.le_succ_of_le b.mo, b.fr, b.bk, b.hd, b.tl⟩
    · split
      · exact ⟨Nat.le_succ_of_le b.mo, b.fr, b.bk, b.hd, b.tl⟩
      · exact b.mend
  obtain ⟨h1, h2, h3, h4, h5⟩ := hm
  unfold Mine.fin
  split
  · exact dots_bd h1 h2 h3 h4 h5
  · exact ⟨h1, by omega, by omega, by omega, by omega⟩

theorem mid_turn (t : Pl.Tale) : mid 1 t = t.turn := if_pos rfl
theorem fin_turn (t : Pl.Tale) : fin 1 t = t.turn := by unfold fin; rw [if_neg (by decide), mid_turn]
theorem mid_dots (t : Pl.Tale) : mid 2 t = t := by unfold mid; rw [if_neg (by decide), if_pos rfl]
theorem fin_dots (t : Pl.Tale) : fin 2 t = t.dots := by unfold fin; rw [if_pos (.inr rfl), mid_dots]
theorem mid_mend {n : Int} (h1 : n ≠ 1) (h2 : n ≠ 2) (t : Pl.Tale) : mid n t = t.mend := by unfold mid; rw [if_neg h1, if_neg h2]
theorem fin_mend {n : Int} (h0 : n ≠ 0) (h1 : n ≠ 1) (h2 : n ≠ 2) (t : Pl.Tale) : fin n t = t.mend := by unfold fin; rw [if_neg (by omega), mid_mend h1 h2]
theorem fin_both (t : Pl.Tale) : fin 0 t = t.mend.dots := by unfold fin; rw [if_pos (.inl rfl), mid_mend (by decide) (by decide)]
theorem fin_yes {n : Int} (h : n = 0 ∨ n = 2) (t : Pl.Tale) : fin n t = (mid n t).dots := if_pos h
theorem fin_no {n : Int} (h : ¬ (n = 0 ∨ n = 2)) (t : Pl.Tale) : fin n t = mid n t := if_neg h

theorem test_cut {M : Model} {A : Around} {E : Value → Shared → Prop} {s : Shared} {env : Env} {test : Expr} {whole : Sem Value} {Q : Bool → Shared → Prop} (b : Bool) (h1 : wpAny M A (isTrue test env whole) (fun b' s' => b' = b ∧ ∃ tk, s' = { s with toks := tk }) E s)
    (h2 : ∀ tk, Q b { s with toks := tk }) : wpAny M A (isTrue test env whole) Q E s :=
  wpAny_mono h1 (fun b' s' h => by obtain ⟨rfl, tk, rfl⟩ := h; exact h2 tk) fun _ _ e => e
theorem wpc_execs_nil {M : Model} {A : Around} {s : Shared} {env : Env} {Q : Flow → Shared → Prop} (h : Q .next s) : wpc M A (execs [] env) Q s := wpc_any (wpAny_execs_nil h)

/-- the three bodies' and runs' data -/
structure Dat where
  q0 : Str × Tok
  q1 : Str × Tok
  q2 : Str × Tok
  q3 : Str × Tok
  r0 : Str
  r1 : Str
  r2 : Str
  t0 : Tok
  t1 : Tok
  t2 : Tok
structure Dat.Ok (D : Dat) : Prop where
  g0 : GoodB 0 D.q0.1
  g1 : GoodB 1 D.q1.1
  g2 : GoodB 2 D.q2.1
  g3 : GoodB 3 D.q3.1
  u0 : IsRun D.r0
  u1 : IsRun D.r1
  u2 : IsRun D.r2
def Dat.told (D : Dat) (t : Pl.Tale) : List Nat := Pl.told D.q0.1.cps.toList D.q1.1.cps.toList D.q2.1.cps.toList D.q3.1.cps.toList (Pl.ends D.r0.cps.toList) (Pl.ends D.r1.cps.toList) (Pl.ends D.r2.cps.toList) t
def Dat.ps (D : Dat) : List (Str × Tok) := [D.q0, D.q1, D.q2, D.q3]
def Dat.es (D : Dat) : List Value := [.int (Pl.ends D.r0.cps.toList : Nat) D.t0, .int (Pl.ends D.r1.cps.toList : Nat) D.t1, .int (Pl.ends D.r2.cps.toList : Nat) D.t2]
theorem Dat.Ok.good {D : Dat} (o : D.Ok) : Pl.Good D.q0.1.cps.toList D.q1.1.cps.toList D.q2.1.cps.toList D.q3.1.cps.toList (Pl.ends D.r0.cps.toList) (Pl.ends D.r1.cps.toList) (Pl.ends D.r2.cps.toList) :=
  ⟨o.g0.1, o.g1.1, o.g2.1, o.g3.1, o.g1.2.2.2 (.inl rfl), o.g2.2.2.2 (.inr rfl), o.u0.lo, o.u1.lo, o.u2.lo⟩
theorem Dat.Ok.len {D : Dat} (o : D.Ok) {t : Pl.Tale} {n : Nat} (b : Bd t n) (hn : n ≤ 40) : (D.told t).length ≤ 1000 := by
  have h := Pl.told_len D.q0.1.cps.toList D.q1.1.cps.toList D.q2.1.cps.toList D.q3.1.cps.toList (Pl.ends D.r0.cps.toList) (Pl.ends D.r1.cps.toList) (Pl.ends D.r2.cps.toList) t
  simp only [Array.length_toList] at h
  have a0 := o.g0.2.2.1
  have a1 := o.g1.2.2.1
  have a2 := o.g2.2.2.1
  have a3 := o.g3.2.2.1
  have c0 := o.u0.hi
  have c1 := o.u1.hi
  have c2 := o.u2.hi
  have b1 := b.mo
  have b2 := b.fr
  have b3 := b.bk
  have b4 := b.hd
  have b5 := b.tl
  unfold Dat.told
  omega
theorem Dat.Ok.pos {D : Dat} (o : D.Ok) (t : Pl.Tale) : 0 < (D.told t).length := Pl.told_pos (o.g1.2.2.2 (.inl rfl)) t
theorem Dat.Ok.chars {D : Dat} (o : D.Ok) (t : Pl.Tale) : ∀ c ∈ D.told t, c < 256 := Pl.told_chars o.g0.2.1 o.g1.2.1 o.g2.2.1 o.g3.2.1 _ _ _ t
theorem Dat.Ok.mend {D : Dat} (o : D.Ok) (t : Pl.Tale) : Pl.fixEols (D.told t) = D.told t.mend := Pl.told_mend o.good t
theorem Dat.Ok.dots {D : Dat} (o : D.Ok) (t : Pl.Tale) : Pl.quote true (D.told t) = D.told t.dots := Pl.told_dots o.good t
theorem Dat.turn (D : Dat) (t : Pl.Tale) : (D.told t).reverse = D.told t.turn := Pl.told_turn t

def mkD (D : Dat) (B T dA : Addr) (t : Pl.Tale) (c : Cn) : TD where
  ps := D.ps
  es := D.es
  en := [Pl.ends D.r0.cps.toList, Pl.ends D.r1.cps.toList, Pl.ends D.r2.cps.toList]
  bA := B
  eA := T
  dA := dA
  fro := t.fro
  torn := t.torn
  more := t.more
  front := t.front
  back := t.back
  head := t.head
  tail := t.tail
  fi := c.fi
  ti := c.ti
  mo := c.mo
  fr := c.fr
  bk := c.bk
  hd := c.hd
  tl := c.tl
  tf := c.tf
  tt := c.tt
  tm := c.tm
  t0 := c.k0
  t1 := c.k1
  t2 := c.k2
  t3 := c.k3
theorem mkD_text (D : Dat) (B T dA : Addr) (t : Pl.Tale) (c : Cn) : (mkD D B T dA t c).text = D.told t := TD.text_eq _ rfl rfl
theorem mkD_ok {D : Dat} {B T dA : Addr} {t : Pl.Tale} {c : Cn} {h : Heap} {n : Nat} (o : D.Ok) (hc : c.Of t) (b : Bd t n) (hn : n ≤ 100) (hB : h.IsList B (strValues D.ps).toArray) (hT : h.IsList T D.es.toArray)
    (hd : IsTup h dA [.int c.fr c.k0, .int c.bk c.k1, .int c.hd c.k2, .int c.tl c.k3].toArray) : (mkD D B T dA t c).Ok h where
  bodies := hB
  ends := hT
  dots := hd
  nb := rfl
  ne := rfl
  at_ := fun k hk => by
    match k, hk with
    | 0, _ => exact ⟨_, rfl⟩
    | 1, _ => exact ⟨_, rfl⟩
    | 2, _ => exact ⟨_, rfl⟩
  e_fi := hc.fi
  e_ti := hc.ti
  e_mo := hc.mo
  e_fr := hc.fr
  e_bk := hc.bk
  e_hd := hc.hd
  e_tl := hc.tl
  s_b := fun p hp => by
    have a0 := o.g0.2.2.1
    have a1 := o.g1.2.2.1
    have a2 := o.g2.2.2.1
    have a3 := o.g3.2.2.1
    have hp : p ∈ [D.q0, D.q1, D.q2, D.q3] := hp
    simp only [List.mem_cons, List.not_mem_nil, or_false] at hp
    rcases hp with rfl | rfl | rfl | rfl <;> omega
  s_e := fun k => by
    have c0 := o.u0.hi
    have c1 := o.u1.hi
    have c2 := o.u2.hi
    match k with
    | 0 => show Pl.ends D.r0.cps.toList ≤ 10; omega
    | 1 => show Pl.ends D.r1.cps.toList ≤ 10; omega
    | 2 => show Pl.ends D.r2.cps.toList ≤ 10; omega
    | k + 3 => show 0 ≤ 10; omega
  s_m := Nat.le_trans b.mo hn
  s_0 := Nat.le_trans b.fr hn
  s_1 := Nat.le_trans b.bk hn
  s_2 := Nat.le_trans b.hd hn
  s_3 := Nat.le_trans b.tl hn

section
variable {prog : Program} {w : World} {A : Around} {E : Value → Shared → Prop} {s : Shared}
/-- the text is what is told of it -/
theorem told_same {d : TD} {y : Str} {ty : Tok} {Q : Bool → Shared → Prop} (G : Gd w s.heap) (hA : A.handled = none) (hroom : A.depth < recursionLimit) (ok : d.Ok s.heap) (hy : y.cps.toList = d.text)
    (hQ : ∀ h' tk, Keep s.heap h' → Q false { s with heap := h', toks := tk }) :
    wpAny (model prog w) A (call (.ref 94) [.ref d.bA, .ref d.eA, .int d.fi d.tf, .int d.ti d.tt, .int d.mo d.tm, .ref d.dA]) (fun v s₃ => wpAny (model prog w) A (compareOp .NotEq (.str y ty) v) (fun c s₄ => wpAny (model prog w) A (truthy c) Q E s₄) E s₃) E s := by
  refine call_told G hA hroom ok fun h' tk t' z hz hk => ?_
  refine P.ne_str (wpAny_truthy_bool ?_)
  have : (y.cps.toList != z.cps.toList) = false := by rw [hy, hz]; simp
  rw [this]
  exact hQ h' tk hk
end
end Mine

end

section -- LW
set_option maxRecDepth 100000
namespace Mine
open PySem PySem.W PyProof.Rows PySem.Calls

section
variable {prog : Program} {w : World} {A : Around} {s : Shared}

set_option maxHeartbeats 4000000 in
theorem call_law {la : Addr} {vs : List Value} {ns : List Int} {Q : Value → Shared → Prop} (G : Gd w s.heap) (hA : A.handled = none) (hg : A.guards = some []) (hroom : A.depth + 1 < recursionLimit)
    (hl : s.heap.IsList la vs.toArray) (hi : IntsAre vs ns) (hn : ns.length ≤ 63)
    (hQ : ∀ h' tk, Keep s.heap h' → Q (.bool true) { s with heap := h', toks := tk }) :
    wpc (model prog w) A (call (.ref 99) [.ref la]) Q s := by
  have e2 : sizeLine = 16777216 := by decide
  refine callc_fn (binds := [(Str.ofString "script", .ref la)]) (by rfl) G (by kernel_rfl) (by omega) (by rfl) (by rfl) ?_
  intro h₁ L hL F
  have S₁ : Wl s.heap L [] [("script", .ref la)] h₁ := ⟨_, F, News.nil, by intro p hp; rw [List.mem_singleton.mp hp]; rfl⟩
  clear F
  -- sums
  refine execc_cut (fun h => ∃ D n us xs, IntsAre us xs ∧ xs.length = 7 ∧ Wl s.heap L [(D, lstO us n)] [("sums", .ref D), ("script", .ref la)] h) ?_ ?_
  · have hvl := hi.length
    refine Assign_comp_pair (cl := []) (fun _ v => ∃ n t, v = Value.int n t) hA (by rfl) (by rfl) (by decide) rfl (by decide) rfl rfl (by decide) rfl rfl ?_
    refine wpAny_Call_ofName ?_
    refine name_b (w := w) (S₁.gd G) (b_zip w) v_zip ?_
    refine PySem.callWith_type rfl (args2 ?_)
    refine slice_of (h₀ := s.heap) (L := L) ?_
    refine wpAny_BinOp ?_
    refine S₁.ld (.head _) ?_
    refine wpAny_BinOp ?_
    refine List_ (args_cons (wpAny_Constant_int (args_nil ?_)))
    refine S₁.newList fun h₂ D₂ S₂ => ?_
    refine wpAny_Constant_int ?_
    refine S₂.mulList (.head _) (by decide) (by show 1 * 7 ≤ 1000; omega) (fun h₃ D₃ S₃ => ?_) (by decide)
    refine S₃.addLists (us := vs) (hl.at fun o e => S₃.old _ o e) (S₃.list (.head _)) (fun h₄ D₄ S₄ => ?_) (by simp; omega)
    refine evalPart_none_step (evalPart_some_step (wpAny_Constant_int ?_))
    refine ⟨D₄, _, _, _, _, _, rfl, .none, .int _ _, S₄.list (.head _), by simp; omega, S₄, fun h₅ D₅ S₅ => ?_⟩
    obtain ⟨u₅, i₅, S₅⟩ : ∃ u, IntsAre u ((ns ++ [0, 0, 0, 0, 0, 0, 0]).take (7 : Int).toNat) ∧ Wl s.heap L [(D₅, lstO u 0)] [("script", .ref la)] h₅ :=
      ⟨_, slice_ints_uptoW (hi.append (seven _)) (by decide), S₅.mono (fun p hp => by rw [List.mem_singleton.mp hp]; exact .head _) fun p hp => hp⟩
    dsimp only
    have l₅ : u₅.length = 7 := by rw [i₅.length]; simp
    refine List_ ?_
    refine args_cons (wpAny_Constant_int ?_); try dsimp only
    refine args_cons (wpAny_Constant_int ?_); try dsimp only
    refine args_cons (wpAny_Constant_int ?_); try dsimp only
    refine args_cons (wpAny_Constant_int ?_); try dsimp only
    refine args_cons (wpAny_Constant_int ?_); try dsimp only
    refine args_cons (wpAny_Constant_int ?_); try dsimp only
    refine args_cons (wpAny_Constant_int ?_); try dsimp only
    refine args_nil ?_
    refine S₅.newList fun h₆ D₆ S₆ => ?_
    dsimp only at S₆ ⊢
    refine S₆.zip hA (S₆.list (.tail _ (.head _))) (S₆.list (.head _)) fun h₇ z fp wr Pt St Mid W hst hfp hPt S₇ hLw hw0 hwo => ?_
    refine W.self 0 _ _ _ hst ?_
    obtain ⟨m₇, F₇, N₇, v₇⟩ := id S₇
    have hmin : ∀ t1 t2 t3 t4 t5 t6 t7, min u₅.toArray.size [Value.int 5 t1, .int 2 t2, .int 4 t3, .int 1 t4, .int 3 t5, .int 6 t6, .int 2 t7].toArray.size = 7 := fun _ _ _ _ _ _ _ => by simp [l₅]
    refine ⟨z, fp, wr, _, Pt, St, Mid, m₇, rfl, W, by rw [hmin]; omega, fun i vals h => ?_, hst, hfp, hLw, F₇.ns, ?_, ?_⟩
    · obtain ⟨x, y, _, _, e⟩ := hPt i vals h
      exact ⟨x, y, e⟩
    · intro C i x y s₃ m₃ E' hC hxy hns ha hb hk
      obtain ⟨x', y', hx, hy, e⟩ := hPt i _ hxy
      obtain ⟨rfl, rfl⟩ : x = x' ∧ y = y' := by simpa using e
      rw [List.getElem?_toArray] at hx hy
      obtain ⟨n1, t1, _, rfl⟩ := ints_at i₅ i x hx
      obtain ⟨n2, t2, _, rfl⟩ := ints_at (adds _ _ _ _ _ _ _) i y hy
      refine wpAny_BinOp ?_
      refine wpAny_Name (wpAny_loadName_local rfl rfl hns ha ?_)
      refine wpAny_Name (wpAny_loadName_local rfl rfl hns hb ?_)
      refine PyProof.Rows.add_int ?_
      exact ⟨⟨_, _, rfl⟩, s₃.heap, _, rfl, fun _ _ e => e⟩
    · rintro D h' tk ys hD ⟨nD, eD⟩ hsz hF hns hk
      obtain ⟨hDL, hD0, _⟩ := S₇.fresh hD
      rw [hmin] at hsz
      obtain ⟨xs, hxs, hxl⟩ := ints_of (us := ys.toList) fun i v hv => hF i v (by simpa using hv)
      refine ⟨rfl, h', tk, rfl, D, nD, ys.toList, xs, hxs, by rw [hxl]; simpa using hsz, _, ⟨hns, fun b o e => hk b o ?_ ?_ (F₇.keep b o e), F₇.above⟩, ?_, ?_⟩
      · intro hb
        have hb : b = L := hb
        have := Heap.lt_size e
        rw [hb, hL] at this
        exact Nat.lt_irrefl _ this
      · intro hb
        rw [hw0 b hb] at e; cases e
      · intro p hp
        rw [List.mem_singleton.mp hp]
        exact ⟨eD, hDL, hD0⟩
      · intro p hp
        rcases List.mem_cons.mp hp with rfl | hp
        · rfl
        · rw [List.mem_singleton.mp hp]
          exact oth (v₇ _ (.head _)) (by show Str.ofString "script" ≠ Str.ofString "sums"; decide)
  intro h₂ tk₂; dsimp only; rintro ⟨D, nD, us, xs, hus, hxs, S₂⟩
  clear S₁
  -- bodies = []
  refine execc_cut (fun h => ∃ B, D ≠ B ∧ Wl s.heap L [(B, lstO [] 0), (D, lstO us nD)] [("bodies", .ref B), ("sums", .ref D), ("script", .ref la)] h) ?_ ?_
  · refine wpAny_Assign_Name (List_ (args_nil ?_))
    refine S₂.newList' fun h₃ B hDB S₃ => ?_
    exact S₃.sto [("sums", .ref D), ("script", .ref la)] (fun h₄ S₄ _ => ⟨rfl, h₄, _, rfl, B, hDB _ (.head _), S₄⟩)
  intro h₃ tk₃; dsimp only; rintro ⟨B, hDB, S₃⟩
  clear S₂
  -- the bodies
  refine execc_cut (fun h => ∃ (ps : List (Str × Tok)) (n : Nat), ps.length = 4 ∧ (∀ j q, ps[j]? = some q → GoodB j q.1) ∧ Wl s.heap L [(B, lstO (strValues ps) n), (D, lstO us nD)] [("bodies", .ref B), ("sums", .ref D), ("script", .ref la)] h) ?_ ?_
  · refine For_walks ?_
    refine wpAny_Call_ofName ?_
    refine name_b (w := w) (S₃.gd G) (b_range w) v_range ?_
    refine PySem.callWith_type rfl (args1 ?_)
    refine wpAny_Constant_int ?_
    refine iter_range (N := 4) (by omega) (by omega) fun I H tk hk hI hI' hSt => ?_
    dsimp only at hk hI ⊢
    have hIL : I ≠ L := Ne.symm (Nat.ne_of_lt (Nat.lt_of_lt_of_le S₃.ltL hI))
    have hIB : B ≠ I := Nat.ne_of_lt (Nat.lt_of_lt_of_le (S₃.lt (.head _)) hI)
    have hID : D ≠ I := Nat.ne_of_lt (Nat.lt_of_lt_of_le (S₃.lt (.tail _ (.head _))) hI)
    have hI0 : s.heap.get? I = none := fresh_none S₃.old hI
    refine ⟨I, [I], [I], 4, _, _, fun i h => ∃ (ps : List (Str × Tok)) (n : Nat), ps.length = i ∧ (∀ j q, ps[j]? = some q → GoodB j q.1) ∧ Wl s.heap L [(B, lstO (strValues ps) n), (D, lstO us nD)] [("bodies", .ref B), ("sums", .ref D), ("script", .ref la)] h, rfl,
      walk_range (A := A.deeper _) hA I 4, ?_, hSt, ⟨[], 0, rfl, by simp, S₃.keep hk⟩, ?_, ?_⟩
    · rintro i h h' ⟨ps, n, h1, h2, S⟩ k
      exact ⟨ps, n, h1, h2, S.off k (by simpa using Ne.symm hIL) (by simpa using hI0) (by simp [hIB, hID])⟩
    · rintro i v h tk hi ⟨_, ti, rfl⟩ hSt ⟨ps, n, h1, h2, S⟩
      dsimp only
      obtain ⟨oI, hoI, S⟩ : ∃ oI, (∀ h' : Heap, h'.get? I = some oI → RI 4 I (i + 1) h') ∧ Wl s.heap L [(I, oI), (B, lstO (strValues ps) n), (D, lstO us nD)] [("bodies", .ref B), ("sums", .ref D), ("script", .ref la)] h := by
        refine ⟨_, ?_, S.add hSt hIL hI0⟩
        exact fun h' e => e
      refine S.sto [("bodies", .ref B), ("sums", .ref D), ("script", .ref la)] fun h₄ S₄ _ => ?_
      dsimp only
      obtain ⟨x, hx⟩ : ∃ x, xs[i]? = some x := ⟨_, List.getElem?_eq_getElem (by omega)⟩
      obtain ⟨tx, hux⟩ := hus.get i x hx
      clear S hSt
      -- code
      refine exec_cut (fun h => ∃ (c : Int) (tc : Tok), 0 ≤ c ∧ c < 256 ∧ Wl s.heap L [(I, oI), (B, lstO (strValues ps) n), (D, lstO us nD)] [("code", .int c tc), ("k", .int (i : Int) ti), ("bodies", .ref B), ("sums", .ref D), ("script", .ref la)] h) ?_ ?_
      · refine wpAny_Assign_Name (wpAny_BinOp (wpAny_BinOp ?_))
        refine wpAny_Subscript_Name_late ?_
        refine S₄.ld (.tail _ (.tail _ (.head _))) ?_
        refine S₄.ld (.head _) ?_
        refine lst_at (S₄.list (.tail _ (.tail _ (.head _)))) rfl (by omega) (by simpa using hux) ?_
        refine wpAny_Constant_int ?_
        refine PyProof.Rows.floordiv_int (by decide) ?_
        refine wpAny_Constant_int ?_
        refine PyProof.Rows.mod_int (by decide) ?_
        dsimp only
        exact S₄.sto [("k", .int (i : Int) ti), ("bodies", .ref B), ("sums", .ref D), ("script", .ref la)] (fun h₅ S₅ _ => ⟨rfl, h₅, _, rfl, _, _, Int.fmod_nonneg_of_pos _ (by decide), Int.fmod_lt_of_pos _ (by decide), S₅⟩)
      intro h₅ tk₅; dsimp only; rintro ⟨c, tc, hc0, hc1, S₅⟩
      clear S₄
      -- sign
      refine exec_cut (fun h => ∃ (sg : Str) (ts : Tok) (a : Nat), sg.cps.toList = [a] ∧ a ≠ 10 ∧ a ≠ 13 ∧ a < 256 ∧ Wl s.heap L [(I, oI), (B, lstO (strValues ps) n), (D, lstO us nD)] [("sign", .str sg ts), ("k", .int (i : Int) ti), ("bodies", .ref B), ("sums", .ref D), ("script", .ref la)] h) ?_ ?_
      · refine wpAny_Assign_Name ?_
        refine eval_cut (fun v h => h = h₅ ∧ ∃ (sg : Str) (ts : Tok) (a : Nat), v = .str sg ts ∧ sg.cps.toList = [a] ∧ a ≠ 10 ∧ a ≠ 13 ∧ a < 256) ?_ ?_
        · refine wpAny_IfExp (isTrue_or (wpAny_isTrue_Compare1 ?_))
          refine S₅.ld (.head _) ?_
          refine wpAny_Constant_int ?_
          refine PyProof.Rows.eq_int (wpAny_truthy_bool ?_)
          by_cases c10 : c = 10
          · rw [if_pos (by simp [c10])]
            dsimp only
            rw [if_pos rfl]
            exact Constant_str ⟨h₅, _, rfl, rfl, _, _, 97, rfl, by decide +kernel, by decide, by decide, by decide⟩
          rw [if_neg (by simp [c10])]
          refine or_last (wpAny_isTrue_Compare1 ?_)
          refine S₅.ld (.head _) ?_
          refine wpAny_Constant_int ?_
          refine PyProof.Rows.eq_int (wpAny_truthy_bool ?_)
          by_cases c13 : c = 13
          · rw [if_pos (by simp [c13])]
            exact Constant_str ⟨h₅, _, rfl, rfl, _, _, 97, rfl, by decide +kernel, by decide, by decide, by decide⟩
          rw [if_neg (by simp [c13])]
          refine wpAny_Call_ofName ?_
          refine name_b (w := w) (S₅.gd G) (b_chr w) v_chr ?_
          refine callWith_builtin rfl (args1 ?_)
          refine S₅.ld (.head _) ?_
          exact chr_of_range hc0 (by omega) ⟨h₅, _, rfl, rfl, _, _, c.toNat, rfl, rfl, by omega, by omega, by omega⟩
        rintro v h' tk' ⟨rfl, sg, ts, a, rfl, g1, g2, g3, g4⟩
        exact S₅.sto [("k", .int (i : Int) ti), ("bodies", .ref B), ("sums", .ref D), ("script", .ref la)] (fun h₆ S₆ _ => ⟨rfl, h₆, _, rfl, sg, ts, a, g1, g2, g3, g4, S₆⟩)
      intro h₆ tk₆; dsimp only; rintro ⟨sg, ts, a, hsg, ha10, ha13, ha, S₆⟩
      clear S₅
      -- body
      with_reducible refine exec_cut (fun h => ∃ (z : Str) (tz : Tok), (Pl.Plain z.cps.toList ∧ (∀ c ∈ z.cps.toList, c < 256) ∧ z.cps.size ≤ 3) ∧ Wl s.heap L [(I, oI), (B, lstO (strValues ps) n), (D, lstO us nD)] [("body", .str z tz), ("k", .int (i : Int) ti), ("bodies", .ref B), ("sums", .ref D), ("script", .ref la)] h) ?_ ?_
      · with_reducible refine wpAny_Assign_Name ?_ ?_
        rotate_left
        · rfl
        with_reducible refine sub_tmp ?_ ?_
        rotate_left
        · exact fun _ _ => ⟨_, rfl⟩
        with_reducible refine Tuple_ ?_
        refine args_cons (Constant_str ?_); try dsimp only
        refine args_cons (Constant_str ?_); try dsimp only
        refine args_cons (Constant_str ?_); try dsimp only
        refine args_cons (Constant_str ?_); try dsimp only
        refine args_cons (Constant_str ?_); try dsimp only
        refine args_cons (Constant_str ?_); try dsimp only
        refine args_cons (Constant_str ?_); try dsimp only
        refine args_cons ?_
        refine S₆.ld (.head _) (args_nil ?_)
        refine S₆.newTuple fun h₇ T₇ S₇ => ?_
        dsimp only at S₇ ⊢
        refine wpAny_BinOp ?_
        refine wpAny_Subscript_Name_late ?_
        refine S₇.ld (.tail _ (.tail _ (.tail _ (.head _)))) ?_
        refine S₇.ld (.tail _ (.head _)) ?_
        refine lst_at (S₇.list (.tail _ (.tail _ (.tail _ (.head _))))) rfl (by omega) (by simpa using hux) ?_
        refine wpAny_Constant_int ?_
        refine PyProof.Rows.mod_int (by decide) ?_
        have m0 := Int.fmod_nonneg_of_pos x (b := 8) (by decide)
        have m1 := Int.fmod_lt_of_pos x (b := 8) (by decide)
        obtain ⟨z, tz, hz, hzg⟩ := menu_body hsg ha10 ha13 ha (t0 := _) (t1 := _) (t2 := _) (t3 := _) (t4 := _) (t5 := _) (t6 := _) (t7 := _) (j := (x.fmod 8).toNat) (by omega)
        refine tup_at (k := (x.fmod 8).toNat) (S₇.tup (.head _)) (by omega) (by omega) (by rw [List.getElem?_toArray]; exact hz) ?_
        exact (S₇.mono (os' := [(I, oI), (B, lstO (strValues ps) n), (D, lstO us nD)]) (by intro p hp; exact .tail _ hp) fun p hp => hp).sto [("k", .int (i : Int) ti), ("bodies", .ref B), ("sums", .ref D), ("script", .ref la)] (fun h₈ S₈ _ => ⟨rfl, h₈, _, rfl, z, tz, hzg, S₈⟩)
      intro h₇ tk₇; dsimp only; rintro ⟨z, tz, hzg, S₇⟩
      clear S₆
      -- append
      refine wpAny_execs_cons (wpAny_Expr ?_)
      refine wpAny_Call_method (T := "list") (id := "list.append") rfl rfl rfl PySem.F.plainAttrs_list PySem.F.slot_list_append PySem.F.type_list_append ?_
      refine S₇.ld (.tail _ (.tail _ (.head _))) ?_
      refine ⟨⟨_, S₇.get (.tail _ (.head _)), rfl⟩, fun a ha => ⟨_, by cases ha; exact S₇.get (.tail _ (.head _)), rfl⟩, ?_⟩
      refine callWith_builtin rfl (args1 ?_)
      refine eval_cut (fun v h => ∃ (y : Str) (ty : Tok), v = .str y ty ∧ GoodB i y ∧ Wl s.heap L [(B, lstO (strValues ps) n), (I, oI), (D, lstO us nD)] [("bodies", .ref B), ("sums", .ref D), ("script", .ref la)] h) ?_ ?_
      · have S₈ : Wl s.heap L [(B, lstO (strValues ps) n), (I, oI), (D, lstO us nD)] [("bodies", .ref B), ("sums", .ref D), ("script", .ref la)] h₇ := S₇.mono (by simp) (by simp)
        obtain ⟨hz1, hz2, hz3⟩ := hzg
        have e0 : (Str.ofString "").cps.toList = [] := by decide +kernel
        have hother : z.cps.toList ≠ [] ∨ ¬ (i = 1 ∨ i = 2) → GoodB i z := fun ho => ⟨hz1, hz2, hz3, fun h12 => ho.elim (fun h => h) fun h => absurd h12 h⟩
        have hA : ∀ {x : Str}, x.cps.toList = [97] → GoodB i x := fun {x} hx => ⟨by rw [hx]; intro c hc; rw [List.mem_singleton.mp hc]; decide, by rw [hx]; intro c hc; rw [List.mem_singleton.mp hc]; decide, by rw [← Array.length_toList, hx]; decide, fun _ => by rw [hx]; decide⟩
        refine wpAny_IfExp (isTrue_and (wpAny_isTrue_Compare1 ?_))
        refine S₇.ld (.head _) (Constant_str ?_)
        refine P.eq_str (wpAny_truthy_bool ?_)
        rw [e0]
        by_cases hz : z.cps.toList = []
        · rw [if_pos (by simp [hz])]
          refine isTrue_and (wpAny_isTrue_Compare1 ?_)
          refine S₇.ld (.tail _ (.head _)) ?_
          refine Tuple_ (args_cons (wpAny_Constant_int (args_cons (wpAny_Constant_int (args_nil ?_)))))
          refine S₇.newTuple fun h₉ T₉ S₉ => ?_
          dsimp only at S₉ ⊢
          refine in_tuple_ints (S₉.tup (.head _)) (ns := [1, 2]) (.cons _ _ (.cons _ _ .nil)) (wpAny_truthy_bool ?_)
          have S₁₀ : Wl s.heap L [(B, lstO (strValues ps) n), (I, oI), (D, lstO us nD)] [("bodies", .ref B), ("sums", .ref D), ("script", .ref la)] h₉ := S₉.mono (by simp) (by simp)
          by_cases h12 : i = 1 ∨ i = 2
          · rw [if_pos (by rcases h12 with rfl | rfl <;> decide)]
            refine isTrue_and_nil ?_
            rw [if_pos rfl]
            exact Constant_str ⟨h₉, _, rfl, _, _, rfl, hA (by decide +kernel), S₁₀⟩
          · rw [if_neg (by simp; omega)]
            rw [if_neg (by decide)]
            exact S₉.ld (.head _) ⟨h₉, _, rfl, _, _, rfl, hother (.inr h12), S₁₀⟩
        · rw [if_neg (by rw [beq_iff_eq]; exact hz)]
          rw [if_neg (by decide)]
          exact S₇.ld (.head _) ⟨h₇, _, rfl, _, _, rfl, hother (.inl hz), S₈⟩
      rintro v h₈ tk₈ ⟨y, ty, rfl, hy, S₈⟩
      dsimp only
      refine wpAny_list_append_plain ⟨n, S₈.get (.head _)⟩ (fun h' hp hs => ?_) (by simp [strValues]; omega)
      obtain ⟨n', hp⟩ := hp
      have S₉ := S₈.set (o' := lstO (strValues (ps ++ [(y, ty)])) n') (by simp [hIB, hID, Ne.symm hIB, hDB]) (fun b o hb e => hs.extBut b o hb e) (by rw [hp]; simp [strValues])
      have S₁₀ : Wl s.heap L [(I, oI), (B, lstO (strValues (ps ++ [(y, ty)])) n'), (D, lstO us nD)] [("bodies", .ref B), ("sums", .ref D), ("script", .ref la)] h' := S₉.mono (by simp) (by simp)
      refine wpAny_execs_nil ⟨rfl, h', _, rfl, ⟨ps ++ [(y, ty)], n', by simp [h1], ?_, S₁₀.mono (by simp) (by simp)⟩, hoI _ (S₁₀.get (.head _))⟩
      intro j q hj
      by_cases hjl : j < ps.length
      · rw [List.getElem?_append_left hjl] at hj; exact h2 j q hj
      · rw [List.getElem?_append_right (by omega)] at hj
        have hj0 : j - ps.length = 0 := by
          have := (List.getElem?_eq_some_iff.mp hj).1
          simpa using this
        rw [hj0] at hj
        have : j = i := by omega
        cases hj
        rw [this]; exact hy
    · rintro h tk ⟨ps, n, h1, h2, S⟩
      exact ⟨rfl, h, _, rfl, ps, n, h1, h2, S⟩
  intro h₄ tk₄; dsimp only; rintro ⟨ps, nB, hp4, hps, S₄⟩
  clear S₃
  -- runs
  refine execc_cut (fun h => ∃ (R : Addr) (rs : List (Str × Tok)) (n : Nat), rs.length = 3 ∧ (∀ (j : Nat) (q : Str × Tok), rs[j]? = some q → IsRun q.1) ∧ Wl s.heap L [(R, lstO (strValues rs) n), (B, lstO (strValues ps) nB)] [("runs", .ref R), ("bodies", .ref B), ("script", .ref la)] h) ?_ ?_
  · refine wpAny_Assign_ListComp_free (cl := []) (fun _ => true) (fun _ y => ∃ z t, y = .str z t ∧ IsRun z) (by rfl) (by rfl) (by decide) rfl (by decide) rfl rfl rfl ?_
    refine slice_of (h₀ := s.heap) (L := L) ?_
    refine S₄.ld (.tail _ (.head _)) ?_
    refine evalPart_some_step (wpAny_Constant_int ?_)
    refine evalPart_none_step ?_
    refine ⟨D, us, _, _, _, _, rfl, .int _ _, .none, S₄.list (.tail _ (.head _)), by rw [hus.length]; omega, S₄, fun h₅ D₅ S₅ => ?_⟩
    obtain ⟨u₅, i₅, S₅⟩ : ∃ u, IntsAre u (xs.drop (4 : Int).toNat) ∧ Wl s.heap L [(D₅, lstO u 0), (B, lstO (strValues ps) nB)] [("bodies", .ref B), ("sums", .ref D), ("script", .ref la)] h₅ :=
      ⟨_, slice_ints_fromW hus (by decide), S₅.mono (by simp) fun p hp => hp⟩
    dsimp only
    have l₅ : u₅.length = 3 := by rw [i₅.length]; simp [hxs]
    have hl₅ := S₅.list (.head _)
    have hlt : D₅ < h₅.objs.size := S₅.lt (.head _)
    refine wpAny_pyIter_list hl₅ ?_
    dsimp only
    have up : Keep h₅ (h₅.push { cls := .type "list_iterator", data := .fields #[.ref D₅, .int 0 0] }) := Keep.push _
    have S₆ := S₅.keep up
    have hIL : L ≠ h₅.objs.size := Nat.ne_of_lt S₅.ltL
    have hI0 : s.heap.get? h₅.objs.size = none := fresh_none S₅.old (Nat.le_refl _)
    have hIB : B ≠ h₅.objs.size := Nat.ne_of_lt (S₅.lt (.tail _ (.head _)))
    obtain ⟨m₆, F₆, N₆, v₆⟩ := id S₆
    refine ⟨h₅.objs.size, [h₅.objs.size, D₅], [h₅.objs.size], _, _, _, m₆, rfl, Walks.list (A := A.deeper _) hA h₅.objs.size D₅ (Nat.ne_of_lt hlt) u₅.toArray, by rw [List.size_toArray, l₅]; omega, ⟨⟨_, Heap.get?_push_size _ rfl, rfl, rfl⟩, hl₅.push _⟩, ?_, fun hm => hIL (List.mem_singleton.mp hm), F₆.ns, ⟨?_, ?_⟩, ?_⟩
    · intro b hb
      rw [Heap.size_push]
      simp only [List.mem_cons, List.not_mem_nil, or_false] at hb
      rcases hb with rfl | rfl
      · exact Nat.lt_succ_self _
      · exact Nat.lt_succ_of_lt hlt
    · intro C i v s₃ m₃ E' hC hP hns hm hk₃ htk
      exact no_tests ⟨rfl, s₃.heap, s₃.toks, rfl, fun _ _ e => e⟩
    · intro C i v s₃ m₃ E' hC hP _ hns hm hk₃ htk
      rw [List.getElem?_toArray] at hP
      obtain ⟨x, tx, _, rfl⟩ := ints_at i₅ i v hP
      with_reducible refine sub_tmp ?_ ?_
      rotate_left
      · exact fun _ _ => ⟨_, rfl⟩
      with_reducible refine Tuple_ ?_
      refine args_cons (Constant_str ?_); try dsimp only
      refine args_cons (Constant_str ?_); try dsimp only
      refine args_cons (Constant_str ?_); try dsimp only
      refine args_cons (Constant_str ?_); try dsimp only
      refine args_cons (Constant_str ?_); try dsimp only
      refine args_cons (Constant_str ?_); try dsimp only
      refine args_cons (Constant_str ?_); try dsimp only
      refine args_cons (Constant_str ?_); try dsimp only
      refine args_nil ?_
      refine wpAny_newObj_type ?_ (by show List.length [_, _, _, _, _, _, _, _] ≤ sizeLine; rw [e2]; simp only [List.length_cons, List.length_nil]; omega)
      dsimp only
      refine wpAny_BinOp ?_
      refine wpAny_Name (wpAny_loadName_local rfl rfl (hns.keeps fun _ _ e => Heap.get?_push_of_some _ e) hm ?_)
      refine wpAny_Constant_int ?_
      refine PyProof.Rows.mod_int (by decide) ?_
      have m0 := Int.fmod_nonneg_of_pos x (b := 8) (by decide)
      have m1 := Int.fmod_lt_of_pos x (b := 8) (by decide)
      obtain ⟨z, tz, hz, hzg⟩ := menu_run (t0 := _) (t1 := _) (t2 := _) (t3 := _) (t4 := _) (t5 := _) (t6 := _) (t7 := _) (j := (x.fmod 8).toNat) (by omega)
      refine tup_at (k := (x.fmod 8).toNat) ⟨_, Heap.get?_push_size _ rfl, rfl, _, rfl⟩ (by omega) (by omega) (by rw [List.getElem?_toArray]; exact hz) ?_
      exact ⟨⟨z, tz, rfl, hzg⟩, _, _, rfl, fun b o e => Heap.get?_push_of_some _ e⟩
    · rintro R h' tk ys us' hD hl ⟨nR, eR⟩ hlen hP hF hns hk
      rw [List.filter_eq_self.mpr (fun _ _ => rfl)] at hF
      obtain ⟨hRL, hR0, hRo⟩ := S₆.fresh hD
      obtain ⟨rs, hrs, hrg⟩ := strs_of (us := ys.toList) (P := fun _ z => IsRun z) fun i v hv => by
        obtain ⟨_, _, z, t, rfl, hz⟩ := paired_at hF i v hv
        exact ⟨z, t, rfl, hz⟩
      refine ⟨rfl, h', tk, rfl, R, rs, nR, ?_, hrg, _, ⟨hns, fun b o e => hk b o ?_ ?_ (F₆.keep b o e), F₆.above⟩, ?_, ?_⟩
      · have e1 := hF.length
        have e2 := congrArg List.length hrs
        simp [strValues] at e1 e2 hlen
        omega
      · intro hb
        have hb : b = L := hb
        have := Heap.lt_size e
        rw [hb, hL] at this
        exact Nat.lt_irrefl _ this
      · intro hb
        rw [List.mem_singleton.mp hb, hI0] at e; cases e
      · intro p hp
        rcases List.mem_cons.mp hp with rfl | hp
        · exact ⟨by rw [eR, ← hrs], hRL, hR0⟩
        · rw [List.mem_singleton.mp hp]
          exact ⟨hk _ _ (S₆.neL (.tail _ (.head _))) (by simpa using hIB) (S₆.get (.tail _ (.head _))), S₆.neL (.tail _ (.head _)), S₆.new (.tail _ (.head _))⟩
      · intro p hp
        simp only [List.mem_cons, List.not_mem_nil, or_false] at hp
        rcases hp with rfl | rfl | rfl
        · rfl
        · exact oth (v₆ _ (.head _)) (by show Str.ofString "bodies" ≠ Str.ofString "runs"; decide)
        · exact oth (v₆ _ (.tail _ (.tail _ (.head _)))) (by show Str.ofString "script" ≠ Str.ofString "runs"; decide)
  intro h₅ tk₅; dsimp only; rintro ⟨R, rs, nR, hr3, hrs, S₅⟩
  clear S₄
  -- ends
  refine execc_cut (fun h => ∃ (T : Addr) (es : List Value) (n : Nat), es.length = 3 ∧ (∀ (j : Nat) (v : Value), es[j]? = some v → ∃ q t, rs[j]? = some q ∧ v = .int (Pl.ends q.1.cps.toList : Nat) t) ∧ Wl s.heap L [(T, lstO es n), (R, lstO (strValues rs) nR), (B, lstO (strValues ps) nB)] [("ends", .ref T), ("runs", .ref R), ("bodies", .ref B), ("script", .ref la)] h) ?_ ?_
  · refine wpAny_Assign_ListComp_free (cl := []) (fun _ => true) (fun v y => ∃ z t t', v = .str z t ∧ y = Value.int (Pl.ends z.cps.toList : Nat) t') (by rfl) (by rfl) (by decide) rfl (by decide) rfl rfl rfl ?_
    refine S₅.ld (.head _) ?_
    have hl₅ := S₅.list (.head _)
    have hlt : R < h₅.objs.size := S₅.lt (.head _)
    refine wpAny_pyIter_list hl₅ ?_
    dsimp only
    have S₆ := S₅.keep (Keep.push { cls := .type "list_iterator", data := .fields #[.ref R, .int 0 0] })
    have hIL : L ≠ h₅.objs.size := Nat.ne_of_lt S₅.ltL
    have hI0 : s.heap.get? h₅.objs.size = none := fresh_none S₅.old (Nat.le_refl _)
    have hIB : B ≠ h₅.objs.size := Nat.ne_of_lt (S₅.lt (.tail _ (.head _)))
    have hIR : R ≠ h₅.objs.size := Nat.ne_of_lt hlt
    obtain ⟨m₆, F₆, N₆, v₆⟩ := id S₆
    refine ⟨h₅.objs.size, [h₅.objs.size, R], [h₅.objs.size], _, _, _, m₆, rfl, Walks.list (A := A.deeper _) hA h₅.objs.size R (Nat.ne_of_lt hlt) (strValues rs).toArray, by rw [List.size_toArray]; simp [strValues]; omega, ⟨⟨_, Heap.get?_push_size _ rfl, rfl, rfl⟩, hl₅.push _⟩, ?_, fun hm => hIL (List.mem_singleton.mp hm), F₆.ns, ⟨?_, ?_⟩, ?_⟩
    · intro b hb
      rw [Heap.size_push]
      simp only [List.mem_cons, List.not_mem_nil, or_false] at hb
      rcases hb with rfl | rfl
      · exact Nat.lt_succ_self _
      · exact Nat.lt_succ_of_lt hlt
    · intro C i v s₃ m₃ E' hC hP hns hm hk₃ htk
      exact no_tests ⟨rfl, s₃.heap, s₃.toks, rfl, fun _ _ e => e⟩
    · intro C i v s₃ m₃ E' hC hP _ hns hm hk₃ htk
      rw [List.getElem?_toArray] at hP
      obtain ⟨q, hq, rfl⟩ := strv_at hP
      have hrun := hrs i q hq
      have G₃ : Gd w s₃.heap := G.keep fun b o e => hk₃ b o (fun hm => by rw [List.mem_singleton.mp hm, hI0] at e; cases e) (S₆.old b o e)
      refine gcall G₃ (g_ends w) (fn_ends w) ?_
      refine args_cons (wpAny_Name (wpAny_loadName_local rfl rfl hns hm ?_))
      refine args_nil ⟨G₃, ?_⟩
      have := hrun.size
      refine call_ends G₃ hA (by show A.depth + 1 < _; exact hroom) (by omega) hrun.count fun h' tk t' hk => ?_
      exact ⟨⟨q.1, q.2, t', rfl, rfl⟩, h', tk, rfl, hk⟩
    · rintro T h' tk ys us' hD hl ⟨nT, eT⟩ hlen hP hF hns hk
      rw [List.filter_eq_self.mpr (fun _ _ => rfl)] at hF
      obtain ⟨hTL, hT0, hTo⟩ := S₆.fresh hD
      refine ⟨rfl, h', tk, rfl, T, ys.toList, nT, ?_, ?_, _, ⟨hns, fun b o e => hk b o ?_ ?_ (F₆.keep b o e), F₆.above⟩, ?_, ?_⟩
      · have e1 := hF.length
        simp [strValues] at e1 hlen ⊢
        omega
      · intro j v hv
        obtain ⟨x, hx, z, t, t', rfl, rfl⟩ := paired_at hF j v hv
        have := hP j _ hx
        rw [List.getElem?_toArray] at this
        obtain ⟨q, hq, e⟩ := strv_at this
        injection e with e1 e2
        exact ⟨q, t', hq, by rw [e1]⟩
      · intro hb
        have hb : b = L := hb
        have := Heap.lt_size e
        rw [hb, hL] at this
        exact Nat.lt_irrefl _ this
      · intro hb
        rw [List.mem_singleton.mp hb, hI0] at e; cases e
      · intro p hp
        simp only [List.mem_cons, List.not_mem_nil, or_false] at hp
        rcases hp with rfl | rfl | rfl
        · exact ⟨eT, hTL, hT0⟩
        · exact ⟨hk _ _ (S₆.neL (.head _)) (by simpa using hIR) (S₆.get (.head _)), S₆.neL (.head _), S₆.new (.head _)⟩
        · exact ⟨hk _ _ (S₆.neL (.tail _ (.head _))) (by simpa using hIB) (S₆.get (.tail _ (.head _))), S₆.neL (.tail _ (.head _)), S₆.new (.tail _ (.head _))⟩
      · intro p hp
        simp only [List.mem_cons, List.not_mem_nil, or_false] at hp
        rcases hp with rfl | rfl | rfl | rfl
        · rfl
        · exact oth (v₆ _ (.head _)) (by show Str.ofString "runs" ≠ Str.ofString "ends"; decide)
        · exact oth (v₆ _ (.tail _ (.head _))) (by show Str.ofString "bodies" ≠ Str.ofString "ends"; decide)
        · exact oth (v₆ _ (.tail _ (.tail _ (.head _)))) (by show Str.ofString "script" ≠ Str.ofString "ends"; decide)
  intro h₆ tk₆; dsimp only; rintro ⟨T, es, nT, he3, hes, S₆⟩
  clear S₅
  obtain ⟨q0, q1, q2, q3, rfl⟩ := four_of hp4
  obtain ⟨r0, r1, r2, rfl⟩ := three_of hr3
  obtain ⟨v0, v1, v2, rfl⟩ := three_of he3
  have g0 := hps 0 q0 rfl
  have g1 := hps 1 q1 rfl
  have g2 := hps 2 q2 rfl
  have g3 := hps 3 q3 rfl
  have u0 := hrs 0 r0 rfl
  have u1 := hrs 1 r1 rfl
  have u2 := hrs 2 r2 rfl
  have hes : ∃ t0 t1 t2, v0 = .int (Pl.ends r0.1.cps.toList : Nat) t0 ∧ v1 = .int (Pl.ends r1.1.cps.toList : Nat) t1 ∧ v2 = .int (Pl.ends r2.1.cps.toList : Nat) t2 := by
    obtain ⟨q, t0, hq, h0⟩ := hes 0 v0 rfl; cases hq
    obtain ⟨q, t1, hq, h1⟩ := hes 1 v1 rfl; cases hq
    obtain ⟨q, t2, hq, h2⟩ := hes 2 v2 rfl; cases hq
    exact ⟨t0, t1, t2, h0, h1, h2⟩
  obtain ⟨t0, t1, t2, rfl, rfl, rfl⟩ := hes
  -- text
  refine execc_cut (fun h => ∃ (dd : Dat) (y : Str) (ty : Tok), dd.Ok ∧ y.cps.toList = dd.told {} ∧
    Wl s.heap L [(T, lstO dd.es nT), (B, lstO (strValues dd.ps) nB)] [("text", .str y ty), ("ends", .ref T), ("bodies", .ref B), ("script", .ref la)] h) ?_ ?_
  · have z0 := g0.2.2.1
    have z1 := g1.2.2.1
    have z2 := g2.2.2.1
    have z3 := g3.2.2.1
    have y0 := u0.size
    have y1 := u1.size
    have y2 := u2.size
    have lB := S₆.list (.tail _ (.tail _ (.head _)))
    have lR := S₆.list (.tail _ (.head _))
    refine wpAny_Assign_Name ?_
    refine gcall (S₆.gd G) (g_fix w) (fn_fix w) ?_
    refine args_cons ?_
    refine wpAny_BinOp (wpAny_BinOp (wpAny_BinOp (wpAny_BinOp (wpAny_BinOp (wpAny_BinOp ?_)))))
    refine wpAny_Subscript_Constant_late (S₆.ld (.tail _ (.tail _ (.head _))) (wpAny_Constant_int ?_))
    refine lst_at (k := 0) lB rfl (by omega) rfl ?_
    refine wpAny_Subscript_Constant_late (S₆.ld (.tail _ (.head _)) (wpAny_Constant_int ?_))
    refine lst_at (k := 0) lR rfl (by omega) rfl ?_
    refine cat (by omega) fun x1 _ k1 e1 => ?_
    have l1 : x1.cps.size ≤ 7 := by rw [← Array.length_toList, e1]; simp; omega
    dsimp only
    refine wpAny_Subscript_Constant_late (S₆.ld (.tail _ (.tail _ (.head _))) (wpAny_Constant_int ?_))
    refine lst_at (k := 1) lB rfl (by omega) rfl ?_
    refine cat (by omega) fun x2 _ k2 e2 => ?_
    have l2 : x2.cps.size ≤ 10 := by rw [← Array.length_toList, e2]; simp; omega
    dsimp only
    refine wpAny_Subscript_Constant_late (S₆.ld (.tail _ (.head _)) (wpAny_Constant_int ?_))
    refine lst_at (k := 1) lR rfl (by omega) rfl ?_
    refine cat (by omega) fun x3 _ k3 e3 => ?_
    have l3 : x3.cps.size ≤ 14 := by rw [← Array.length_toList, e3]; simp; omega
    dsimp only
    refine wpAny_Subscript_Constant_late (S₆.ld (.tail _ (.tail _ (.head _))) (wpAny_Constant_int ?_))
    refine lst_at (k := 2) lB rfl (by omega) rfl ?_
    refine cat (by omega) fun x4 _ k4 e4 => ?_
    have l4 : x4.cps.size ≤ 17 := by rw [← Array.length_toList, e4]; simp; omega
    dsimp only
    refine wpAny_Subscript_Constant_late (S₆.ld (.tail _ (.head _)) (wpAny_Constant_int ?_))
    refine lst_at (k := 2) lR rfl (by omega) rfl ?_
    refine cat (by omega) fun x5 _ k5 e5 => ?_
    have l5 : x5.cps.size ≤ 21 := by rw [← Array.length_toList, e5]; simp; omega
    dsimp only
    refine wpAny_Subscript_Constant_late (S₆.ld (.tail _ (.tail _ (.head _))) (wpAny_Constant_int ?_))
    refine lst_at (k := 3) lB rfl (by omega) rfl ?_
    refine cat (by omega) fun x6 _ k6 e6 => ?_
    have l6 : x6.cps.size ≤ 24 := by rw [← Array.length_toList, e6]; simp; omega
    dsimp only
    refine args_nil ⟨S₆.gd G, ?_⟩
    refine call_fix (S₆.gd G) (by show A.depth + 1 < _; exact hroom) (by omega) fun h' tk t' y hy hk => ?_
    dsimp only
    have S₇ : Wl s.heap L [(T, lstO [.int (Pl.ends r0.1.cps.toList : Nat) t0, .int (Pl.ends r1.1.cps.toList : Nat) t1, .int (Pl.ends r2.1.cps.toList : Nat) t2] nT), (B, lstO (strValues [q0, q1, q2, q3]) nB)] [("ends", .ref T), ("bodies", .ref B), ("script", .ref la)] h' := (S₆.keep hk).mono (by simp) (by simp)
    refine S₇.sto [("ends", .ref T), ("bodies", .ref B), ("script", .ref la)] fun h₈ S₈ _ => ⟨rfl, h₈, _, rfl, ⟨q0, q1, q2, q3, r0.1, r1.1, r2.1, t0, t1, t2⟩, y, t', ⟨g0, g1, g2, g3, u0, u1, u2⟩, ?_, S₈⟩
    rw [hy, e6, e5, e4, e3, e2, e1]
    simp only [List.append_assoc]
    exact Pl.told_first g0.1 g1.1 g2.1 g3.1 (g1.2.2.2 (.inl rfl)) (g2.2.2.2 (.inr rfl)) u0.only u1.only u2.only
  intro h₇ tk₇; dsimp only; rintro ⟨dd, y, ty, ok, hy, S₇⟩
  clear S₆
  have hroom' : ∀ e, (A.deeper e).depth < recursionLimit := fun e => hroom
  -- the first test
  refine execc_cut (fun h => Wl s.heap L [(T, lstO dd.es nT), (B, lstO (strValues dd.ps) nB)] [("text", .str y ty), ("ends", .ref T), ("bodies", .ref B), ("script", .ref la)] h) ?_ ?_
  · refine wpAny_If (wpAny_isTrue_Compare1 ?_)
    refine S₇.ld (.head _) ?_
    refine gcall (S₇.gd G) (g_told w) (fn_told w) ?_
    refine args_cons (S₇.ld (.tail _ (.tail _ (.head _))) ?_)
    refine args_cons (S₇.ld (.tail _ (.head _)) ?_)
    refine args_cons (wpAny_Constant_int ?_); try dsimp only
    refine args_cons (wpAny_Constant_int ?_); try dsimp only
    refine args_cons (wpAny_Constant_int ?_); try dsimp only
    refine args_cons (Tuple_ ?_)
    refine args_cons (wpAny_Constant_int ?_); try dsimp only
    refine args_cons (wpAny_Constant_int ?_); try dsimp only
    refine args_cons (wpAny_Constant_int ?_); try dsimp only
    refine args_cons (wpAny_Constant_int ?_); try dsimp only
    refine args_nil ?_
    refine S₇.newTuple fun h₈ dA S₈ => ?_
    dsimp only
    refine args_nil ⟨S₈.gd G, ?_⟩
    refine told_same (d := mkD dd B T dA {} ⟨0, 0, 0, 0, 0, 0, 0, _, _, _, _, _, _, _⟩) (S₈.gd G) hA (hroom' _) (mkD_ok (n := 0) ok ⟨rfl, rfl, rfl, rfl, rfl, rfl, rfl⟩ ⟨Nat.le_refl _, Nat.le_refl _, Nat.le_refl _, Nat.le_refl _, Nat.le_refl _⟩ (by omega) (S₈.list (.tail _ (.tail _ (.head _)))) (S₈.list (.tail _ (.head _))) (S₈.tup (.head _))) (by rw [mkD_text]; exact hy) fun h' tk hk => ?_
    rw [if_neg (by decide)]
    exact wpAny_execs_nil ⟨rfl, h', _, rfl, (S₈.keep hk).mono (by simp) (by simp)⟩
  intro h₈ tk₈; dsimp only; intro S₈
  clear S₇
  refine execc_cut (fun h => ∃ a0, Wl s.heap L [(T, lstO dd.es nT), (B, lstO (strValues dd.ps) nB)] [("fro", .int 0 a0), ("text", .str y ty), ("ends", .ref T), ("bodies", .ref B), ("script", .ref la)] h) (wpAny_Assign_Name (wpAny_Constant_int (S₈.sto [("text", .str y ty), ("ends", .ref T), ("bodies", .ref B), ("script", .ref la)] fun h' S' _ => ⟨rfl, h', _, rfl, _, S'⟩))) ?_
  intro hz0 tz0; dsimp only; rintro ⟨a0, Z0⟩
  clear S₈
  refine execc_cut (fun h => ∃ a1, Wl s.heap L [(T, lstO dd.es nT), (B, lstO (strValues dd.ps) nB)] [("torn", .int 0 a1), ("fro", .int 0 a0), ("text", .str y ty), ("ends", .ref T), ("bodies", .ref B), ("script", .ref la)] h) (wpAny_Assign_Name (wpAny_Constant_int (Z0.sto [("fro", .int 0 a0), ("text", .str y ty), ("ends", .ref T), ("bodies", .ref B), ("script", .ref la)] fun h' S' _ => ⟨rfl, h', _, rfl, _, S'⟩))) ?_
  intro hz1 tz1; dsimp only; rintro ⟨a1, Z1⟩
  clear Z0
  refine execc_cut (fun h => ∃ a2, Wl s.heap L [(T, lstO dd.es nT), (B, lstO (strValues dd.ps) nB)] [("more", .int 0 a2), ("torn", .int 0 a1), ("fro", .int 0 a0), ("text", .str y ty), ("ends", .ref T), ("bodies", .ref B), ("script", .ref la)] h) (wpAny_Assign_Name (wpAny_Constant_int (Z1.sto [("torn", .int 0 a1), ("fro", .int 0 a0), ("text", .str y ty), ("ends", .ref T), ("bodies", .ref B), ("script", .ref la)] fun h' S' _ => ⟨rfl, h', _, rfl, _, S'⟩))) ?_
  intro hz2 tz2; dsimp only; rintro ⟨a2, Z2⟩
  clear Z1
  refine execc_cut (fun h => ∃ a3, Wl s.heap L [(T, lstO dd.es nT), (B, lstO (strValues dd.ps) nB)] [("front", .int 0 a3), ("more", .int 0 a2), ("torn", .int 0 a1), ("fro", .int 0 a0), ("text", .str y ty), ("ends", .ref T), ("bodies", .ref B), ("script", .ref la)] h) (wpAny_Assign_Name (wpAny_Constant_int (Z2.sto [("more", .int 0 a2), ("torn", .int 0 a1), ("fro", .int 0 a0), ("text", .str y ty), ("ends", .ref T), ("bodies", .ref B), ("script", .ref la)] fun h' S' _ => ⟨rfl, h', _, rfl, _, S'⟩))) ?_
  intro hz3 tz3; dsimp only; rintro ⟨a3, Z3⟩
  clear Z2
  refine execc_cut (fun h => ∃ a4, Wl s.heap L [(T, lstO dd.es nT), (B, lstO (strValues dd.ps) nB)] [("back", .int 0 a4), ("front", .int 0 a3), ("more", .int 0 a2), ("torn", .int 0 a1), ("fro", .int 0 a0), ("text", .str y ty), ("ends", .ref T), ("bodies", .ref B), ("script", .ref la)] h) (wpAny_Assign_Name (wpAny_Constant_int (Z3.sto [("front", .int 0 a3), ("more", .int 0 a2), ("torn", .int 0 a1), ("fro", .int 0 a0), ("text", .str y ty), ("ends", .ref T), ("bodies", .ref B), ("script", .ref la)] fun h' S' _ => ⟨rfl, h', _, rfl, _, S'⟩))) ?_
  intro hz4 tz4; dsimp only; rintro ⟨a4, Z4⟩
  clear Z3
  refine execc_cut (fun h => ∃ a5, Wl s.heap L [(T, lstO dd.es nT), (B, lstO (strValues dd.ps) nB)] [("head", .int 0 a5), ("back", .int 0 a4), ("front", .int 0 a3), ("more", .int 0 a2), ("torn", .int 0 a1), ("fro", .int 0 a0), ("text", .str y ty), ("ends", .ref T), ("bodies", .ref B), ("script", .ref la)] h) (wpAny_Assign_Name (wpAny_Constant_int (Z4.sto [("back", .int 0 a4), ("front", .int 0 a3), ("more", .int 0 a2), ("torn", .int 0 a1), ("fro", .int 0 a0), ("text", .str y ty), ("ends", .ref T), ("bodies", .ref B), ("script", .ref la)] fun h' S' _ => ⟨rfl, h', _, rfl, _, S'⟩))) ?_
  intro hz5 tz5; dsimp only; rintro ⟨a5, Z5⟩
  clear Z4
  refine execc_cut (fun h => ∃ a6, Wl s.heap L [(T, lstO dd.es nT), (B, lstO (strValues dd.ps) nB)] [("tail", .int 0 a6), ("head", .int 0 a5), ("back", .int 0 a4), ("front", .int 0 a3), ("more", .int 0 a2), ("torn", .int 0 a1), ("fro", .int 0 a0), ("text", .str y ty), ("ends", .ref T), ("bodies", .ref B), ("script", .ref la)] h) (wpAny_Assign_Name (wpAny_Constant_int (Z5.sto [("head", .int 0 a5), ("back", .int 0 a4), ("front", .int 0 a3), ("more", .int 0 a2), ("torn", .int 0 a1), ("fro", .int 0 a0), ("text", .str y ty), ("ends", .ref T), ("bodies", .ref B), ("script", .ref la)] fun h' S' _ => ⟨rfl, h', _, rfl, _, S'⟩))) ?_
  intro hz6 tz6; dsimp only; rintro ⟨a6, Z6⟩
  clear Z5
  have hbd : Bd {} 0 := ⟨Nat.le_refl _, Nat.le_refl _, Nat.le_refl _, Nat.le_refl _, Nat.le_refl _⟩
  obtain ⟨t, c, hc, hbd, hy⟩ : ∃ (t : Pl.Tale) (c : Cn), c = ⟨0, 0, 0, 0, 0, 0, 0, a0, a1, a2, a3, a4, a5, a6⟩ ∧ (Bd t 0 ∧ c.Of t) ∧ y.cps.toList = dd.told t := ⟨_, _, rfl, ⟨hbd, ⟨rfl, rfl, rfl, rfl, rfl, rfl, rfl⟩⟩, hy⟩
  have S₉ : Wl s.heap L [(T, lstO dd.es nT), (B, lstO (strValues dd.ps) nB)] [("script", .ref la), ("text", .str y ty), ("fro", .int c.fi c.tf), ("torn", .int c.ti c.tt), ("more", .int c.mo c.tm), ("front", .int c.fr c.k0), ("back", .int c.bk c.k1), ("head", .int c.hd c.k2), ("tail", .int c.tl c.k3), ("ends", .ref T), ("bodies", .ref B)] hz6 := by
    rw [hc]; exact Z6.mono (fun p hp => hp) (by simp)
  clear Z6 hc
  obtain ⟨hbd, hof⟩ := hbd
  -- the deeds
  with_reducible refine execcc_cut (fun h => Keep s.heap h) ?_ ?_
  · with_reducible refine Forc_walks ?_ ?_
    rotate_left
    · intro _; rfl
    with_reducible refine eval_cut (fun v h => ∃ (K : Addr) (n : Nat) (ds : List Value) (dn : List Int), v = .ref K ∧ IntsAre ds dn ∧ ds.length ≤ 17 ∧ Wl s.heap L [(K, lstO ds n), (T, lstO dd.es nT), (B, lstO (strValues dd.ps) nB)]
      [("text", .str y ty), ("fro", .int c.fi c.tf), ("torn", .int c.ti c.tt), ("more", .int c.mo c.tm), ("front", .int c.fr c.k0), ("back", .int c.bk c.k1), ("head", .int c.hd c.k2), ("tail", .int c.tl c.k3), ("ends", .ref T), ("bodies", .ref B)] h) ?_ ?_
    · with_reducible refine wpAny_BinOp ?_
      with_reducible refine List_ ?_
      refine args_cons (wpAny_Constant_int ?_); try dsimp only
      refine args_cons (wpAny_Constant_int ?_); try dsimp only
      refine args_cons (wpAny_Constant_int ?_); try dsimp only
      refine args_cons (wpAny_Constant_int ?_); try dsimp only
      refine args_cons (wpAny_Constant_int ?_); try dsimp only
      refine args_cons (wpAny_Constant_int ?_); try dsimp only
      refine args_cons (wpAny_Constant_int ?_); try dsimp only
      refine args_cons (wpAny_Constant_int ?_); try dsimp only
      refine args_cons (wpAny_Constant_int ?_); try dsimp only
      refine args_nil ?_
      refine S₉.newList fun hK K₁ SK => ?_
      dsimp only at SK ⊢
      obtain ⟨k₁, kn, hk9, ik₁, SK⟩ : ∃ (k₁ : List Value) (kn : List Int), k₁.length = 9 ∧ IntsAre k₁ kn ∧ Wl s.heap L [(K₁, lstO k₁ 0), (T, lstO dd.es nT), (B, lstO (strValues dd.ps) nB)]
          [("script", .ref la), ("text", .str y ty), ("fro", .int c.fi c.tf), ("torn", .int c.ti c.tt), ("more", .int c.mo c.tm), ("front", .int c.fr c.k0), ("back", .int c.bk c.k1), ("head", .int c.hd c.k2), ("tail", .int c.tl c.k3), ("ends", .ref T), ("bodies", .ref B)] hK :=
        ⟨_, _, rfl, .cons _ _ (.cons _ _ (.cons _ _ (.cons _ _ (.cons _ _ (.cons _ _ (.cons _ _ (.cons _ _ (.cons _ _ .nil)))))))), SK⟩
      refine wpAny_ListComp_free (cl := []) (fun _ => true) (fun _ y => ∃ n t, y = Value.int n t) (by rfl) (by decide) rfl (by decide) rfl ?_
      refine slice_of (h₀ := s.heap) (L := L) ?_
      refine SK.ld (.head _) ?_
      refine evalPart_none_step (evalPart_some_step (wpAny_Constant_int ?_))
      refine ⟨la, vs, _, _, _, _, rfl, .none, .int _ _, hl.at fun o e => SK.old _ o e, by rw [hi.length]; omega, SK, fun h₅ D₅ S₅ => ?_⟩
      obtain ⟨u₅, i₅, S₅⟩ : ∃ u, IntsAre u (ns.take (8 : Int).toNat) ∧ Wl s.heap L [(D₅, lstO u 0), (K₁, lstO k₁ 0), (T, lstO dd.es nT), (B, lstO (strValues dd.ps) nB)]
          [("script", .ref la), ("text", .str y ty), ("fro", .int c.fi c.tf), ("torn", .int c.ti c.tt), ("more", .int c.mo c.tm), ("front", .int c.fr c.k0), ("back", .int c.bk c.k1), ("head", .int c.hd c.k2), ("tail", .int c.tl c.k3), ("ends", .ref T), ("bodies", .ref B)] h₅ :=
        ⟨_, slice_ints_uptoW hi (by decide), S₅⟩
      dsimp only
      have l₅ : u₅.length ≤ 8 := by rw [i₅.length, List.length_take]; exact Nat.min_le_left _ _
      have hl₅ := S₅.list (.head _)
      have hlt : D₅ < h₅.objs.size := S₅.lt (.head _)
      refine wpAny_pyIter_list hl₅ ?_
      dsimp only
      have S₆ := S₅.keep (Keep.push { cls := .type "list_iterator", data := .fields #[.ref D₅, .int 0 0] })
      have hIL : L ≠ h₅.objs.size := Nat.ne_of_lt S₅.ltL
      have hI0 : s.heap.get? h₅.objs.size = none := fresh_none S₅.old (Nat.le_refl _)
      have hIo : ∀ p ∈ [(D₅, lstO u₅ 0), (K₁, lstO k₁ 0), (T, lstO dd.es nT), (B, lstO (strValues dd.ps) nB)], p.1 ∉ [h₅.objs.size] := fun p hp hm => Nat.ne_of_lt (S₅.lt hp) (List.mem_singleton.mp hm)
      refine ⟨h₅.objs.size, [h₅.objs.size, D₅], [h₅.objs.size], _, _, _, rfl, Walks.list (A := A.deeper _) hA h₅.objs.size D₅ (Nat.ne_of_lt hlt) u₅.toArray, by rw [List.size_toArray]; omega, ⟨⟨_, Heap.get?_push_size _ rfl, rfl, rfl⟩, hl₅.push _⟩, ?_, ⟨?_, ?_⟩, ?_⟩
      · intro b hb
        rw [Heap.size_push]
        simp only [List.mem_cons, List.not_mem_nil, or_false] at hb
        rcases hb with rfl | rfl
        · exact Nat.lt_succ_self _
        · exact Nat.lt_succ_of_lt hlt
      · intro C i v s₃ m₃ E' hC hP hns hm hk₃ htk
        exact no_tests ⟨rfl, s₃.heap, s₃.toks, rfl, fun _ _ e => e⟩
      · intro C i v s₃ m₃ E' hC hP _ hns hm hk₃ htk
        rw [List.getElem?_toArray] at hP
        obtain ⟨x, tx, _, rfl⟩ := ints_at i₅ i v hP
        refine wpAny_BinOp (wpAny_BinOp ?_)
        refine wpAny_Name (wpAny_loadName_local rfl rfl hns hm ?_)
        refine wpAny_BinOp ?_
        refine wpAny_Name (wpAny_loadName_local rfl rfl hns hm ?_)
        refine wpAny_Constant_int ?_
        refine PyProof.Rows.floordiv_int (by decide) ?_
        refine PyProof.Rows.add_int ?_
        refine wpAny_Constant_int ?_
        refine PyProof.Rows.mod_int (by decide) ?_
        exact ⟨⟨_, _, rfl⟩, s₃.heap, _, rfl, fun _ _ e => e⟩
      · rintro Dc h' tk ys us' hD hyl ⟨nC, eC⟩ hlen hP hF hk
        rw [List.filter_eq_self.mpr (fun _ _ => rfl)] at hF
        obtain ⟨hCL, hC0, hCo⟩ := S₆.fresh hD
        obtain ⟨xc, ixc, lxc⟩ := ints_of (us := ys.toList) fun i v hv => by
          obtain ⟨_, _, hn⟩ := paired_at hF i v hv
          exact hn
        have hyl : ys.toList.length ≤ 8 := by
          rw [← hF.length, hlen, List.size_toArray]; exact l₅
        have S₇ := (S₆.off hk (fun hm => hIL (List.mem_singleton.mp hm)) (fun b hb => by rw [List.mem_singleton.mp hb]; exact hI0) hIo).add (o := lstO ys.toList nC) eC hCL hC0
        refine S₇.addLists (us := k₁) (ws := ys.toList) (S₇.list (.tail _ (.tail _ (.head _)))) (S₇.list (.head _)) (fun h₈ K S₈ => ?_) (by omega)
        exact ⟨h₈, _, rfl, K, 0, _, _, rfl, ik₁.append ixc, by rw [List.length_append]; omega, S₈.mono (by simp) (by simp)⟩
    rintro v h₁₀ tk₁₀ ⟨K, nK, ds, dn, rfl, hds, hdl, S₁₀⟩
    clear S₉
    dsimp only
    have hKl := S₁₀.list (.head _)
    have hIo : ∀ p ∈ [(K, lstO ds nK), (T, lstO dd.es nT), (B, lstO (strValues dd.ps) nB)], p.1 ∉ [h₁₀.objs.size] := fun p hp hm => Nat.ne_of_lt (S₁₀.lt hp) (List.mem_singleton.mp hm)
    have hIL : L ≠ h₁₀.objs.size := Nat.ne_of_lt S₁₀.ltL
    have hI0 : s.heap.get? h₁₀.objs.size = none := fresh_none S₁₀.old (Nat.le_refl _)
    have hKI : K ≠ h₁₀.objs.size := Nat.ne_of_lt (S₁₀.lt (.head _))
    refine wpAny_pyIter_list hKl ?_
    dsimp only
    have S₁₁ := S₁₀.keep (Keep.push { cls := .type "list_iterator", data := .fields #[.ref K, .int 0 0] })
    have hst : Heap.IsListIter (h₁₀.push { cls := .type "list_iterator", data := .fields #[.ref K, .int 0 0] }) h₁₀.objs.size K 0 ∧ Heap.IsList (h₁₀.push { cls := .type "list_iterator", data := .fields #[.ref K, .int 0 0] }) K ds.toArray := ⟨⟨_, Heap.get?_push_size _ rfl, rfl, rfl⟩, hKl.push _⟩
    generalize (h₁₀.push { cls := .type "list_iterator", data := .fields #[.ref K, .int 0 0] }) = h₁₁ at S₁₁ hst ⊢
    generalize h₁₀.objs.size = I at hIo hIL hI0 hKI hst ⊢
    refine ⟨I, [I, K], [I], ds.toArray.size, _, _, fun i h => ∃ (t : Pl.Tale) (y : Str) (ty : Tok) (c : Cn), Bd t i ∧ c.Of t ∧ y.cps.toList = dd.told t ∧ Wl s.heap L [(K, lstO ds nK), (T, lstO dd.es nT), (B, lstO (strValues dd.ps) nB)]
      [("text", .str y ty), ("fro", .int c.fi c.tf), ("torn", .int c.ti c.tt), ("more", .int c.mo c.tm), ("front", .int c.fr c.k0), ("back", .int c.bk c.k1), ("head", .int c.hd c.k2), ("tail", .int c.tl c.k3), ("ends", .ref T), ("bodies", .ref B)] h, rfl, Walks.list (A := A.deeper _) hA I K hKI ds.toArray, ?_, hst, ⟨t, y, ty, c, hbd, hof, hy, S₁₁⟩, ?_, ?_⟩
    · rintro i h h' ⟨t, y, ty, c, h1, h2, h3, S⟩ k
      exact ⟨t, y, ty, c, h1, h2, h3, S.off k (fun hm => hIL (List.mem_singleton.mp hm)) (fun b hb => by rw [List.mem_singleton.mp hb]; exact hI0) hIo⟩
    · clear S₁₁ hst S₁₀ hbd hof hy hKl
      rintro i v h tk hil hP ⟨⟨oI, eI, rI⟩, hKl⟩ ⟨t, y, ty, c, hbd, hof, hy, S⟩
      dsimp only
      have S := S.add eI (Ne.symm hIL) hI0
      have hil : i < 17 := by rw [List.size_toArray] at hil; omega
      rw [List.getElem?_toArray] at hP
      obtain ⟨n, tn, _, rfl⟩ := ints_at hds i v hP
      have hlen : ∀ {t : Pl.Tale} {y : Str}, Bd t (i + 1) → y.cps.toList = dd.told t → y.cps.size ≤ 1000 := fun b e => by rw [← Array.length_toList, e]; exact ok.len b (by omega)
      refine S.sto [("text", .str y ty), ("fro", .int c.fi c.tf), ("torn", .int c.ti c.tt), ("more", .int c.mo c.tm), ("front", .int c.fr c.k0), ("back", .int c.bk c.k1), ("head", .int c.hd c.k2), ("tail", .int c.tl c.k3), ("ends", .ref T), ("bodies", .ref B)] fun h₁₂ S₁₂ _ => ?_
      dsimp only
      clear S eI hKl
      -- the deed
      with_reducible refine execcc_cut (fun h => ∃ (y : Str) (ty : Tok) (c : Cn), c.Of (mid n t) ∧ y.cps.toList = dd.told (fin n t) ∧ Wl s.heap L [(I, oI), (K, lstO ds nK), (T, lstO dd.es nT), (B, lstO (strValues dd.ps) nB)]
        [("deed", .int n tn), ("text", .str y ty), ("fro", .int c.fi c.tf), ("torn", .int c.ti c.tt), ("more", .int c.mo c.tm), ("front", .int c.fr c.k0), ("back", .int c.bk c.k1), ("head", .int c.hd c.k2), ("tail", .int c.tl c.k3), ("ends", .ref T), ("bodies", .ref B)] h) ?_ ?_
      · with_reducible refine wpc_If ?_
        refine wpAny_isTrue_Compare1 ?_
        refine S₁₂.ld (.head _) (wpAny_Constant_int ?_)
        refine PyProof.Rows.eq_int (wpAny_truthy_bool ?_)
        dsimp only
        have hys := hlen (hbd.up (Nat.le_succ i)) hy
        by_cases n1 : n = 1
        · subst n1
          rw [if_pos (by decide), mid_turn, fin_turn]
          -- octets
          with_reducible refine execc_cut (fun h => ∃ (x : Array UInt8) (tx : Tok), x.toList.map (·.toNat) = dd.told t ∧ Wl s.heap L [(I, oI), (K, lstO ds nK), (T, lstO dd.es nT), (B, lstO (strValues dd.ps) nB)] [("octets", .bytes x tx), ("deed", .int 1 tn), ("fro", .int c.fi c.tf), ("torn", .int c.ti c.tt), ("more", .int c.mo c.tm), ("front", .int c.fr c.k0), ("back", .int c.bk c.k1), ("head", .int c.hd c.k2), ("tail", .int c.tl c.k3), ("ends", .ref T), ("bodies", .ref B)] h) ?_ ?_
          · refine wpAny_Assign_Name ?_
            refine gcall (S₁₂.gd G) (g_octets w) (fn_octets w) ?_
            refine args_cons (S₁₂.ld (.tail _ (.head _)) (args_nil ⟨S₁₂.gd G, ?_⟩))
            refine call_octets (S₁₂.gd G) hA (hroom' _) (by omega) (by rw [hy]; exact ok.chars t) fun h' tk' t' x hx hk => ?_
            dsimp only
            exact (S₁₂.keep hk).sto [("deed", .int 1 tn), ("fro", .int c.fi c.tf), ("torn", .int c.ti c.tt), ("more", .int c.mo c.tm), ("front", .int c.fr c.k0), ("back", .int c.bk c.k1), ("head", .int c.hd c.k2), ("tail", .int c.tl c.k3), ("ends", .ref T), ("bodies", .ref B)] fun h₁₃ S₁₃ _ => ⟨rfl, h₁₃, _, rfl, x, t', by rw [hx, hy], S₁₃⟩
          intro h₁₃ tk₁₃; dsimp only; rintro ⟨x, tx, hx, S₁₃⟩
          clear S₁₂
          have hxs : x.size = (dd.told t).length := by rw [← hx]; simp
          have hxl := ok.len (hbd.up (Nat.le_succ i)) (by omega)
          have hx0 := ok.pos t
          -- text
          with_reducible refine execcc_cut (fun h => ∃ (y : Str) (ty : Tok), y.cps.toList = dd.told t.turn ∧ Wl s.heap L [(I, oI), (K, lstO ds nK), (T, lstO dd.es nT), (B, lstO (strValues dd.ps) nB)] [("deed", .int 1 tn), ("text", .str y ty), ("fro", .int c.fi c.tf), ("torn", .int c.ti c.tt), ("more", .int c.mo c.tm), ("front", .int c.fr c.k0), ("back", .int c.bk c.k1), ("head", .int c.hd c.k2), ("tail", .int c.tl c.k3), ("ends", .ref T), ("bodies", .ref B)] h) ?_ ?_
          · refine wpc_Assign_Name ?_
            refine gcallc (S₁₃.gd G) (g_text w) (fn_text w) (by rfl) (by show ¬ 1 + 2 * 0 > 30; omega) ?_
            refine wpc_args1 ?_
            refine gcallc (S₁₃.gd G) (g_swap w) (fn_swap w) (by rfl) (by show ¬ 2 + 2 * 0 > 30; omega) ?_
            refine wpc_any (args2 ?_)
            refine S₁₃.ld (.head _) ?_
            refine wpAny_Call_ofName ?_
            refine name_b (w := w) (S₁₃.gd G) (b_len w) v_len ?_
            refine callWith_builtin rfl (args1 ?_)
            refine S₁₃.ld (.head _) ?_
            refine len_bytes (by omega) ?_
            refine ⟨S₁₃.gd G, ?_⟩
            refine call_byteswap (S₁₃.gd G) hA hg (hroom' _) (by omega) (by omega) rfl fun h' tk' t' x' hx' hk => ?_
            dsimp only
            have S₁₄ := S₁₃.keep hk
            refine ⟨S₁₄.gd G, wpc_any ?_⟩
            have hxs' : x'.size = x.size := by rw [← Array.length_toList, hx', List.length_reverse, Array.length_toList]
            refine call_text (S₁₄.gd G) hA (hroom' _) (by omega) fun h'' tk'' t'' z hz hk' => ?_
            dsimp only
            refine (S₁₄.keep hk').sto [("deed", .int 1 tn), ("fro", .int c.fi c.tf), ("torn", .int c.ti c.tt), ("more", .int c.mo c.tm), ("front", .int c.fr c.k0), ("back", .int c.bk c.k1), ("head", .int c.hd c.k2), ("tail", .int c.tl c.k3), ("ends", .ref T), ("bodies", .ref B)] fun h₁₅ S₁₅ _ => ⟨rfl, h₁₅, _, rfl, z, t'', ?_, S₁₅.mono (by simp) (by simp)⟩
            rw [hz, hx', List.map_reverse, hx]
            exact dd.turn t
          intro h₁₄ tk₁₄; dsimp only; rintro ⟨y', ty', hy', S₁₄⟩
          clear S₁₃
          -- fro
          with_reducible refine execc_cut (fun h => ∃ (tf : Tok), Wl s.heap L [(I, oI), (K, lstO ds nK), (T, lstO dd.es nT), (B, lstO (strValues dd.ps) nB)] [("fro", .int (1 - c.fi) tf), ("deed", .int 1 tn), ("text", .str y' ty'), ("torn", .int c.ti c.tt), ("more", .int c.mo c.tm), ("front", .int c.fr c.k0), ("back", .int c.bk c.k1), ("head", .int c.hd c.k2), ("tail", .int c.tl c.k3), ("ends", .ref T), ("bodies", .ref B)] h) ?_ ?_
          · refine wpAny_Assign_Name (wpAny_BinOp (wpAny_Constant_int ?_))
            refine S₁₄.ld (.tail _ (.tail _ (.head _))) ?_
            refine PyProof.Rows.sub_int ?_
            exact S₁₄.sto [("deed", .int 1 tn), ("text", .str y' ty'), ("torn", .int c.ti c.tt), ("more", .int c.mo c.tm), ("front", .int c.fr c.k0), ("back", .int c.bk c.k1), ("head", .int c.hd c.k2), ("tail", .int c.tl c.k3), ("ends", .ref T), ("bodies", .ref B)] fun h₁₅ S₁₅ _ => ⟨rfl, h₁₅, _, rfl, _, S₁₅⟩
          intro h₁₅ tk₁₅; dsimp only; rintro ⟨tf', S₁₅⟩
          clear S₁₄
          -- torn
          refine wpc_any (execs_one ?_)
          refine wpAny_Assign_Name (wpAny_BinOp (wpAny_Constant_int ?_))
          refine S₁₅.ld (.tail _ (.tail _ (.tail _ (.head _)))) ?_
          refine PyProof.Rows.sub_int ?_
          exact S₁₅.sto [("fro", .int (1 - c.fi) tf'), ("deed", .int 1 tn), ("text", .str y' ty'), ("more", .int c.mo c.tm), ("front", .int c.fr c.k0), ("back", .int c.bk c.k1), ("head", .int c.hd c.k2), ("tail", .int c.tl c.k3), ("ends", .ref T), ("bodies", .ref B)] fun h₁₆ S₁₆ _ => ⟨rfl, h₁₆, _, rfl, y', ty', _, hof.turn tf' (tk₁₅ + 1), hy', S₁₆.mono (fun p hp => hp) (by simp)⟩
        · rw [if_neg (by simpa using n1)]
          refine wpc_any (execs_one ?_)
          refine wpAny_If (wpAny_isTrue_Compare1 ?_)
          refine S₁₂.ld (.head _) (wpAny_Constant_int ?_)
          refine PyProof.Rows.eq_int (wpAny_truthy_bool ?_)
          try dsimp only
          by_cases n2 : n = 2
          · subst n2
            rw [if_pos (by decide), mid_dots, fin_dots]
            refine execs_one (wpAny_Assign_Name ?_)
            refine gcall (S₁₂.gd G) (g_text w) (fn_text w) ?_
            refine args_cons ?_
            refine gcall (S₁₂.gd G) (g_periods w) (fn_periods w) ?_
            refine args_cons ?_
            refine gcall (S₁₂.gd G) (g_octets w) (fn_octets w) ?_
            refine args_cons (S₁₂.ld (.tail _ (.head _)) (args_nil ⟨S₁₂.gd G, ?_⟩))
            refine call_octets (S₁₂.gd G) hA (hroom' _) (by omega) (by rw [hy]; exact ok.chars t) fun h' tk' t' x hx hk => ?_
            try dsimp only
            have S₁₃ := S₁₂.keep hk
            have hxs : x.size = y.cps.size := by rw [← Array.length_toList, ← List.length_map (·.toNat), hx, Array.length_toList]
            refine args_nil ⟨S₁₃.gd G, ?_⟩
            refine call_periods (S₁₃.gd G) (hroom' _) (by omega) fun h'' tk'' t'' z hz hk' => ?_
            try dsimp only
            have S₁₄ := S₁₃.keep hk'
            have hzt : z.toList.map (·.toNat) = dd.told t.dots := by rw [hz, hx, hy]; exact ok.dots t
            have hzs : z.size ≤ 1000 := by
              have := ok.len (hbd.fin 2) (by omega)
              rw [fin_dots] at this
              rw [← Array.length_toList, ← List.length_map (·.toNat), hzt]; exact this
            refine args_nil ⟨S₁₄.gd G, ?_⟩
            refine call_text (S₁₄.gd G) hA (hroom' _) (by omega) fun h₃ tk₃ t₃ u hu hk₃ => ?_
            try dsimp only
            exact (S₁₄.keep hk₃).sto [("deed", .int 2 tn), ("fro", .int c.fi c.tf), ("torn", .int c.ti c.tt), ("more", .int c.mo c.tm), ("front", .int c.fr c.k0), ("back", .int c.bk c.k1), ("head", .int c.hd c.k2), ("tail", .int c.tl c.k3), ("ends", .ref T), ("bodies", .ref B)] fun h₁₅ S₁₅ _ => ⟨rfl, h₁₅, _, rfl, u, t₃, c, hof, hu.trans hzt, S₁₅.mono (fun p hp => hp) (by simp)⟩
          · rw [if_neg (by simpa using n2)]
            -- text
            refine exec_cut (fun h => ∃ (y : Str) (ty : Tok), y.cps.toList = dd.told (fin n t) ∧ Wl s.heap L [(I, oI), (K, lstO ds nK), (T, lstO dd.es nT), (B, lstO (strValues dd.ps) nB)] [("deed", .int n tn), ("text", .str y ty), ("fro", .int c.fi c.tf), ("torn", .int c.ti c.tt), ("more", .int c.mo c.tm), ("front", .int c.fr c.k0), ("back", .int c.bk c.k1), ("head", .int c.hd c.k2), ("tail", .int c.tl c.k3), ("ends", .ref T), ("bodies", .ref B)] h) ?_ ?_
            · refine wpAny_Assign_Name (wpAny_IfExp (wpAny_isTrue_Compare1 ?_))
              refine S₁₂.ld (.head _) (wpAny_Constant_int ?_)
              refine PyProof.Rows.eq_int (wpAny_truthy_bool ?_)
              try dsimp only
              by_cases n0 : n = 0
              · subst n0
                rw [if_pos (by decide), fin_both]
                refine gcall (S₁₂.gd G) (g_quotedata w) (fn_quotedata w) ?_
                refine args_cons (S₁₂.ld (.tail _ (.head _)) (args_nil ⟨S₁₂.gd G, ?_⟩))
                have hml : (Pl.fixEols y.cps.toList).length ≤ 1000 := by
                  rw [hy, ok.mend]
                  exact ok.len (n := i + 1) ⟨hbd.mend.1, Nat.le_succ_of_le hbd.mend.2.1, Nat.le_succ_of_le hbd.mend.2.2.1, Nat.le_succ_of_le hbd.mend.2.2.2.1, Nat.le_succ_of_le hbd.mend.2.2.2.2⟩ (by omega)
                refine call_quotedata (S₁₂.gd G) (hroom' _) (by omega) (by omega) fun h' tk' t' z hz hk => ?_
                try dsimp only
                refine (S₁₂.keep hk).sto [("deed", .int 0 tn), ("fro", .int c.fi c.tf), ("torn", .int c.ti c.tt), ("more", .int c.mo c.tm), ("front", .int c.fr c.k0), ("back", .int c.bk c.k1), ("head", .int c.hd c.k2), ("tail", .int c.tl c.k3), ("ends", .ref T), ("bodies", .ref B)] fun h₁₃ S₁₃ _ => ⟨rfl, h₁₃, _, rfl, z, t', ?_, S₁₃.mono (fun p hp => hp) (by simp)⟩
                rw [hz, hy, ok.mend, ok.dots]
              · rw [if_neg (by simpa using n0), fin_mend n0 n1 n2]
                refine gcall (S₁₂.gd G) (g_fix w) (fn_fix w) ?_
                refine args_cons (S₁₂.ld (.tail _ (.head _)) (args_nil ⟨S₁₂.gd G, ?_⟩))
                refine call_fix (S₁₂.gd G) (hroom' _) (by omega) fun h' tk' t' z hz hk => ?_
                try dsimp only
                refine (S₁₂.keep hk).sto [("deed", .int n tn), ("fro", .int c.fi c.tf), ("torn", .int c.ti c.tt), ("more", .int c.mo c.tm), ("front", .int c.fr c.k0), ("back", .int c.bk c.k1), ("head", .int c.hd c.k2), ("tail", .int c.tl c.k3), ("ends", .ref T), ("bodies", .ref B)] fun h₁₃ S₁₃ _ => ⟨rfl, h₁₃, _, rfl, z, t', ?_, S₁₃.mono (fun p hp => hp) (by simp)⟩
                rw [hz, hy, ok.mend]
            intro h₁₃ tk₁₃; dsimp only; rintro ⟨y', ty', hy', S₁₃⟩
            clear S₁₂
            -- more
            refine exec_cut (fun h => ∃ (tm : Tok), Wl s.heap L [(I, oI), (K, lstO ds nK), (T, lstO dd.es nT), (B, lstO (strValues dd.ps) nB)] [("more", .int (c.mo + c.ti) tm), ("deed", .int n tn), ("text", .str y' ty'), ("fro", .int c.fi c.tf), ("torn", .int c.ti c.tt), ("front", .int c.fr c.k0), ("back", .int c.bk c.k1), ("head", .int c.hd c.k2), ("tail", .int c.tl c.k3), ("ends", .ref T), ("bodies", .ref B)] h) ?_ ?_
            · refine wpAny_AugAssign_Name ?_
              refine S₁₃.ldn (.tail _ (.tail _ (.tail _ (.tail _ (.head _))))) ?_
              refine S₁₃.ld (.tail _ (.tail _ (.tail _ (.head _)))) ?_
              refine PyProof.Rows.iadd_int ?_
              exact S₁₃.sto [("deed", .int n tn), ("text", .str y' ty'), ("fro", .int c.fi c.tf), ("torn", .int c.ti c.tt), ("front", .int c.fr c.k0), ("back", .int c.bk c.k1), ("head", .int c.hd c.k2), ("tail", .int c.tl c.k3), ("ends", .ref T), ("bodies", .ref B)] fun h₁₅ S₁₅ _ => ⟨rfl, h₁₅, _, rfl, _, S₁₅⟩
            intro h₁₄ tk₁₄; dsimp only; rintro ⟨tm', S₁₄⟩
            clear S₁₃
            -- torn
            refine execs_one (wpAny_Assign_Name (wpAny_Constant_int ?_))
            try dsimp only
            rw [mid_mend n1 n2]
            exact S₁₄.sto [("more", .int (c.mo + c.ti) tm'), ("deed", .int n tn), ("text", .str y' ty'), ("fro", .int c.fi c.tf), ("front", .int c.fr c.k0), ("back", .int c.bk c.k1), ("head", .int c.hd c.k2), ("tail", .int c.tl c.k3), ("ends", .ref T), ("bodies", .ref B)] fun h₁₆ S₁₆ _ => ⟨rfl, h₁₆, _, rfl, y', ty', _, hof.mend tm' tk₁₄, hy', S₁₆.mono (fun p hp => hp) (by simp)⟩
      intro h₁₃ tk₁₃; dsimp only; rintro ⟨y', ty', c', hof', hy', S₁₃⟩
      clear S₁₂
      -- the counts of dots
      with_reducible refine execc_cut (fun h => ∃ (c : Cn), c.Of (fin n t) ∧ Wl s.heap L [(I, oI), (K, lstO ds nK), (T, lstO dd.es nT), (B, lstO (strValues dd.ps) nB)]
        [("text", .str y' ty'), ("fro", .int c.fi c.tf), ("torn", .int c.ti c.tt), ("more", .int c.mo c.tm), ("front", .int c.fr c.k0), ("back", .int c.bk c.k1), ("head", .int c.hd c.k2), ("tail", .int c.tl c.k3), ("ends", .ref T), ("bodies", .ref B)] h) ?_ ?_
      · refine wpAny_If ?_
        refine test_cut (decide (n = 0 ∨ n = 2)) ?_ ?_
        · refine isTrue_or (wpAny_isTrue_Compare1 ?_)
          refine S₁₃.ld (.head _) (wpAny_Constant_int ?_)
          refine PyProof.Rows.eq_int (wpAny_truthy_bool ?_)
          by_cases n0 : n = 0
          · rw [if_pos (by simp [n0])]
            exact ⟨by simp [n0], _, rfl⟩
          rw [if_neg (by simp [n0])]
          refine or_last (wpAny_isTrue_Compare1 ?_)
          refine S₁₃.ld (.head _) (wpAny_Constant_int ?_)
          refine PyProof.Rows.eq_int (wpAny_truthy_bool ?_)
          exact ⟨by by_cases n2 : n = 2 <;> simp [n0, n2], _, rfl⟩
        intro tk'
        try dsimp only
        by_cases h02 : n = 0 ∨ n = 2
        · rw [if_pos (by simpa using h02)]
          refine execs_one (wpAny_If (wpAny_isTrue_Compare1 ?_))
          refine S₁₃.ld (.tail _ (.tail _ (.tail _ (.head _)))) (wpAny_Constant_int ?_)
          refine PyProof.Rows.eq_int (wpAny_truthy_bool ?_)
          try dsimp only
          by_cases ht : (mid n t).torn = true
          · rw [if_pos (by rw [hof'.ti, if_pos ht]; rfl)]
            refine exec_cut (fun h => ∃ (kk : Tok), Wl s.heap L [(I, oI), (K, lstO ds nK), (T, lstO dd.es nT), (B, lstO (strValues dd.ps) nB)] [("head", .int (c'.hd + (1 - c'.fi)) kk), ("text", .str y' ty'), ("fro", .int c'.fi c'.tf), ("torn", .int c'.ti c'.tt), ("more", .int c'.mo c'.tm), ("front", .int c'.fr c'.k0), ("back", .int c'.bk c'.k1), ("tail", .int c'.tl c'.k3), ("ends", .ref T), ("bodies", .ref B)] h) ?_ ?_
            · refine wpAny_AugAssign_Name ?_
              refine S₁₃.ldn (.tail _ (.tail _ (.tail _ (.tail _ (.tail _ (.tail _ (.tail _ (.head _)))))))) ?_
              refine wpAny_BinOp (wpAny_Constant_int ?_)
              refine S₁₃.ld (.tail _ (.tail _ (.head _))) ?_
              refine PyProof.Rows.sub_int ?_
              refine PyProof.Rows.iadd_int ?_
              exact S₁₃.sto [("text", .str y' ty'), ("fro", .int c'.fi c'.tf), ("torn", .int c'.ti c'.tt), ("more", .int c'.mo c'.tm), ("front", .int c'.fr c'.k0), ("back", .int c'.bk c'.k1), ("tail", .int c'.tl c'.k3), ("ends", .ref T), ("bodies", .ref B)] fun h₁₅ S₁₅ _ => ⟨rfl, h₁₅, _, rfl, _, S₁₅⟩
            intro h₁₄ tk₁₄; dsimp only; rintro ⟨kk, S₁₄⟩
            refine execs_one (wpAny_AugAssign_Name ?_)
            refine S₁₄.ldn (.tail _ (.tail _ (.tail _ (.tail _ (.tail _ (.tail _ (.tail _ (.head _)))))))) ?_
            refine S₁₄.ld (.tail _ (.tail _ (.head _))) ?_
            refine PyProof.Rows.iadd_int ?_
            exact S₁₄.sto [("head", .int (c'.hd + (1 - c'.fi)) kk), ("text", .str y' ty'), ("fro", .int c'.fi c'.tf), ("torn", .int c'.ti c'.tt), ("more", .int c'.mo c'.tm), ("front", .int c'.fr c'.k0), ("back", .int c'.bk c'.k1), ("ends", .ref T), ("bodies", .ref B)] fun h₁₅ S₁₅ _ => ⟨rfl, h₁₅, _, rfl, _, by rw [fin_yes h02]; exact hof'.dots_torn ht kk tk₁₄, S₁₅.mono (fun p hp => hp) (by simp)⟩
          · rw [if_neg (by rw [hof'.ti, if_neg ht]; decide)]
            refine exec_cut (fun h => ∃ (kk : Tok), Wl s.heap L [(I, oI), (K, lstO ds nK), (T, lstO dd.es nT), (B, lstO (strValues dd.ps) nB)] [("front", .int (c'.fr + (1 - c'.fi)) kk), ("text", .str y' ty'), ("fro", .int c'.fi c'.tf), ("torn", .int c'.ti c'.tt), ("more", .int c'.mo c'.tm), ("back", .int c'.bk c'.k1), ("head", .int c'.hd c'.k2), ("tail", .int c'.tl c'.k3), ("ends", .ref T), ("bodies", .ref B)] h) ?_ ?_
            · refine wpAny_AugAssign_Name ?_
              refine S₁₃.ldn (.tail _ (.tail _ (.tail _ (.tail _ (.tail _ (.head _)))))) ?_
              refine wpAny_BinOp (wpAny_Constant_int ?_)
              refine S₁₃.ld (.tail _ (.tail _ (.head _))) ?_
              refine PyProof.Rows.sub_int ?_
              refine PyProof.Rows.iadd_int ?_
              exact S₁₃.sto [("text", .str y' ty'), ("fro", .int c'.fi c'.tf), ("torn", .int c'.ti c'.tt), ("more", .int c'.mo c'.tm), ("back", .int c'.bk c'.k1), ("head", .int c'.hd c'.k2), ("tail", .int c'.tl c'.k3), ("ends", .ref T), ("bodies", .ref B)] fun h₁₅ S₁₅ _ => ⟨rfl, h₁₅, _, rfl, _, S₁₅⟩
            intro h₁₄ tk₁₄; dsimp only; rintro ⟨kk, S₁₄⟩
            refine execs_one (wpAny_AugAssign_Name ?_)
            refine S₁₄.ldn (.tail _ (.tail _ (.tail _ (.tail _ (.tail _ (.head _)))))) ?_
            refine S₁₄.ld (.tail _ (.tail _ (.head _))) ?_
            refine PyProof.Rows.iadd_int ?_
            exact S₁₄.sto [("front", .int (c'.fr + (1 - c'.fi)) kk), ("text", .str y' ty'), ("fro", .int c'.fi c'.tf), ("torn", .int c'.ti c'.tt), ("more", .int c'.mo c'.tm), ("head", .int c'.hd c'.k2), ("tail", .int c'.tl c'.k3), ("ends", .ref T), ("bodies", .ref B)] fun h₁₅ S₁₅ _ => ⟨rfl, h₁₅, _, rfl, _, by rw [fin_yes h02]; exact hof'.dots_whole (by simpa using ht) kk tk₁₄, S₁₅.mono (fun p hp => hp) (by simp)⟩
        · rw [if_neg (by simpa using h02)]
          exact wpAny_execs_nil ⟨rfl, h₁₃, _, rfl, c', by rw [fin_no h02]; exact hof', S₁₃.mono (fun p hp => hp) (by simp)⟩
      intro h₁₄ tk₁₄; dsimp only; rintro ⟨c'', hof'', S₁₄⟩
      clear S₁₃ hof'
      -- the test
      with_reducible refine execc_cut (fun h => Wl s.heap L [(I, oI), (K, lstO ds nK), (T, lstO dd.es nT), (B, lstO (strValues dd.ps) nB)]
        [("text", .str y' ty'), ("fro", .int c''.fi c''.tf), ("torn", .int c''.ti c''.tt), ("more", .int c''.mo c''.tm), ("front", .int c''.fr c''.k0), ("back", .int c''.bk c''.k1), ("head", .int c''.hd c''.k2), ("tail", .int c''.tl c''.k3), ("ends", .ref T), ("bodies", .ref B)] h) ?_ ?_
      · refine wpAny_If (wpAny_isTrue_Compare1 ?_)
        refine S₁₄.ld (.head _) ?_
        refine gcall (S₁₄.gd G) (g_told w) (fn_told w) ?_
        refine args_cons (S₁₄.ld (.tail _ (.tail _ (.tail _ (.tail _ (.tail _ (.tail _ (.tail _ (.tail _ (.tail _ (.head _)))))))))) ?_)
        refine args_cons (S₁₄.ld (.tail _ (.tail _ (.tail _ (.tail _ (.tail _ (.tail _ (.tail _ (.tail _ (.head _))))))))) ?_)
        refine args_cons (S₁₄.ld (.tail _ (.head _)) ?_)
        refine args_cons (S₁₄.ld (.tail _ (.tail _ (.head _))) ?_)
        refine args_cons (S₁₄.ld (.tail _ (.tail _ (.tail _ (.head _)))) ?_)
        refine args_cons (Tuple_ ?_)
        refine args_cons (S₁₄.ld (.tail _ (.tail _ (.tail _ (.tail _ (.head _))))) ?_)
        refine args_cons (S₁₄.ld (.tail _ (.tail _ (.tail _ (.tail _ (.tail _ (.head _)))))) ?_)
        refine args_cons (S₁₄.ld (.tail _ (.tail _ (.tail _ (.tail _ (.tail _ (.tail _ (.head _))))))) ?_)
        refine args_cons (S₁₄.ld (.tail _ (.tail _ (.tail _ (.tail _ (.tail _ (.tail _ (.tail _ (.head _)))))))) ?_)
        refine args_nil ?_
        refine S₁₄.newTuple fun h₁₅ dA S₁₅ => ?_
        dsimp only
        refine args_nil ⟨S₁₅.gd G, ?_⟩
        refine told_same (d := mkD dd B T dA (fin n t) c'') (S₁₅.gd G) hA (hroom' _) (mkD_ok (n := i + 1) ok hof'' (hbd.fin n) (by omega) (S₁₅.list (.tail _ (.tail _ (.tail _ (.tail _ (.head _)))))) (S₁₅.list (.tail _ (.tail _ (.tail _ (.head _))))) (S₁₅.tup (.head _))) (by rw [mkD_text]; exact hy') fun h' tk hk => ?_
        rw [if_neg (by decide)]
        exact wpAny_execs_nil ⟨rfl, h', _, rfl, (S₁₅.keep hk).mono (by simp) (by simp)⟩
      intro h₁₆ tk₁₆; dsimp only; intro S₁₆
      exact wpc_execs_nil ⟨rfl, h₁₆, _, rfl, ⟨fin n t, y', ty', c'', hbd.fin n, hof'', hy', S₁₆.mono (by simp) (by simp)⟩, ⟨oI, S₁₆.get (.head _), rI⟩, S₁₆.list (.tail _ (.head _))⟩
    · rintro h tk ⟨t, y, ty, c, h1, h2, h3, S⟩
      exact ⟨rfl, h, _, rfl, S.old⟩
  intro h₁₇ tk₁₇; dsimp only; intro hk₁₇
  exact wpc_execs_cons (wpc_Return_some (wpc_any (Constant_bool ⟨_, rfl, hQ _ _ hk₁₇⟩)))
end
end Mine

end

section -- LZ
set_option maxRecDepth 100000
namespace Mine
open PySem PySem.W PyProof.Rows PySem.Calls

theorem g_law (w : World) : nsIn (KK w) mainGlobals "law" = some (some (.ref 99)) := by kernel_rfl

theorem args_of {vals : List Value} {args : List WData} {h : Heap} {cl : Str → Option Addr} {as : List Addr} {P : Params} (hpre : row1.toRowW.claim.pre args = true) (hlay : WData.layableAll args = true)
    (hrd : ReadsAllW row1.toRowW.records cl h vals args as) (hwl : WellAll P h vals args) (hlo : ∀ a ∈ as, (a == sysModules) = false) :
    ∃ (la : Addr) (us : List Value) (ns : List Int), vals = [.ref la] ∧ h.IsList la us.toArray ∧ IntsAre us ns ∧ ns.length ≤ 63 := by
  wrow_args hpre hlay hrd hwl hlo
  exact ⟨_, _, _, rfl, ‹Heap.IsList _ _ _›, ‹IntsAre _ _›, by omega⟩

theorem post_ok (args : List WData) : row1.toRowW.claim.post args (.bool true) args = true := by
  have h : (WTm.eq .res (.lit (.bool true))).value [] { args := args, res := some (.bool true), after := args } = some (.bool true) := w_eq_bool (k := true) (l := true) (w_res rfl) (by simp [WTm.value])
  show (WShape.has [] (.bool true) .bool && WTm.holds [] (WTm.eq .res (.lit (.bool true))) { args := args, res := some (.bool true), after := args }) = true
  unfold WTm.holds
  rw [h]
  simp [WShape.has, WShape.arms]

theorem law_holds : Challenge.rw_pg0015_01.Holds := by
  refine head (by rfl) (by rfl) (by rfl) ?_
  intro w s₀ s₁ mg mb G Y a o pm cd doc dV kV ho hd' hcd hD hmg hg args vals as hpre hlay hrd hwl hlo
  obtain ⟨la, us, ns, rfl, hl, hi, hn⟩ := args_of hpre hlay hrd hwl hlo
  have K : (KK w).In s₁.heap := kIn_of Y
  have hGd : Gd w s₁.heap := ⟨K, G.T.nolimit, mg, mb, G.T.g, G.T.b, G.T.builtins⟩
  have ha : a = 99 := by
    have h1 := mg_of K G.T.g (g_law w)
    have h2 : mg "law" = some (.ref a) := hmg
    rw [h2] at h1
    injection h1 with h1
    injection h1
  subst ha
  refine call_law hGd rfl rfl (by decide +kernel) hl hi hn fun h' tk hk => ?_
  refine GoodW.toG ⟨.inl ⟨.bool true, .bool true, [], rfl, fun cls => rfl, .bool true, post_ok args, fun _ => ⟨.nil, fun a ha => by cases ha⟩⟩, hk, rfl, hg⟩
end Mine

end

theorem PySem.Challenge.cw_pg0015_01_holds : PySem.Challenge.rw_pg0015_01.Holds := by
  exact Mine.law_holds
