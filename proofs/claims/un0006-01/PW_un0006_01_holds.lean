import PyProof.Rows.All
import Wide.All
import OpenK.AllK
import Wide.FinOn
import PySem.Challenge.RW_un0006_01
set_option Elab.async false
set_option maxRecDepth 100000
set_option maxHeartbeats 8000000
section
open PySem PySem.W PyProof.Rows
open_top Mine.hd for PySem.Challenge.rw_un0006_01
end
-- M
section
open PySem hiding Frame Outcome
namespace Mine
open Sre Sre.M

theorem step_done {m : M} (h : m.outcome.isSome = true) : m.step = m := by
  unfold M.step; rw [if_pos h]
theorem runFor_done {m : M} (h : m.outcome.isSome = true) : ∀ n, runFor n m = m
  | 0 => rfl
  | n + 1 => by rw [runFor, if_pos h]
theorem runFor_succ (n : Nat) (m : M) : runFor (n + 1) m = runFor n m.step := by
  rw [runFor]
  split
  · rename_i h; rw [step_done h, runFor_done h]
  · rfl
theorem runFor_add (a b : Nat) (m : M) : runFor (a + b) m = runFor b (runFor a m) := by
  induction a generalizing m with
  | zero => rw [Nat.zero_add]; rfl
  | succ a ih => rw [Nat.add_right_comm, runFor_succ, runFor_succ, ih]

theorem step_run {m : M} (ho : m.outcome = none) (ha : m.answer = none) (hp : m.pc < m.code.size) : m.step = m.exec := by
  unfold M.step
  rw [ho, ha]
  exact if_pos hp
theorem step_back {m : M} {f : Frame} {rest : List Frame} {yes : Bool} (ho : m.outcome = none) (ha : m.answer = some yes) (hf : m.frames = f :: rest) :
    m.step = M.resume { m with answer := none, frames := rest, weight := m.weight - (1 + f.kept.marks.size), pc := f.pc, pos := f.pos, outermost := f.outermost } f yes := by
  unfold M.step
  rw [ho, ha, hf]
  rfl
theorem step_end {m : M} {yes : Bool} (ho : m.outcome = none) (ha : m.answer = some yes) (hf : m.frames = []) :
    m.step = { m with outcome := some (if yes then .matched else .failed) } := by
  unfold M.step
  rw [ho, ha, hf]
  rfl

/-- one word of the machine's code -/
abbrev noted (m : M) : M := { m with seen := m.seen.add (m.word 0) }
theorem exec_AT {m : M} {y : Bool} (h : ops[m.word 0]? = some .AT) (hy : m.isAt (m.word 1) = .ok y) :
    m.exec = if y then { m with seen := (m.seen.add (m.word 0)).add (43 + m.word 1), pc := m.pc + 2 } else M.say { m with seen := (m.seen.add (m.word 0)).add (43 + m.word 1) } false := by
  unfold M.exec
  simp only [h]
  have : (noted m).isAt ((noted m).word 1) = .ok y := hy
  show (match (noted m).isAt ((noted m).word 1) with | .error why => (noted m).stick why | .ok yes => if yes then _ else _) = _
  rw [this]
  cases y <;> rfl
theorem exec_LIT {m : M} (h : ops[m.word 0]? = some .LITERAL) :
    m.exec = if m.pos ≥ m.lim then (noted m).say false else if (m.text.getD m.pos 0 == m.word 1) = true then { noted m with pc := m.pc + 2, pos := m.pos + 1 } else (noted m).say false := by
  have ha : accepts m.code m.pc (m.text.getD m.pos 0) (m.seen.add (m.word 0)) = .ok (m.text.getD m.pos 0 == m.word 1, m.seen.add (m.word 0)) := by
    unfold accepts
    have h' : ops[m.code.getD m.pc 0]? = some .LITERAL := h
    simp only [h']
    rfl
  have hw : itemWidth m.code m.pc = 2 := by
    unfold itemWidth
    have h' : ops[m.code.getD m.pc 0]? = some .LITERAL := h
    simp only [h']
  unfold M.exec
  simp only [h]
  split
  · rfl
  · rw [ha]
    cases m.text.getD m.pos 0 == m.word 1
    · rfl
    · simp only [if_true]
      rw [hw]
theorem exec_SUC {m : M} (h : ops[m.word 0]? = some .SUCCESS) :
    m.exec = if (m.outermost && ((m.wholeText && m.pos != m.lim) || (m.mustAdvance && m.pos == m.start))) = true then (noted m).say false else M.say { noted m with handed := m.pos } true := by
  unfold M.exec
  simp only [h]
theorem exec_JUMP {m : M} (h : ops[m.word 0]? = some .JUMP) : m.exec = { noted m with pc := m.pc + 1 + m.word 1 } := by
  unfold M.exec
  simp only [h]
  try rfl
theorem exec_BRANCH {m : M} (h : ops[m.word 0]? = some .BRANCH) : m.exec = (noted m).alternative (m.pc + 1) ((noted m).keep m.inner.isSome) := by
  unfold M.exec
  simp only [h]
theorem exec_NOT {m : M} (h : ops[m.word 0]? = some .ASSERT_NOT) (h0 : m.word 2 = 0) :
    m.exec = (noted m).attempt { (noted m).frame .lookNot with kept := (noted m).keep m.inner.isSome } (m.pc + 3) m.pos false := by
  unfold M.exec
  simp only [h]
  have : ((noted m).word 2) = 0 := h0
  show (if m.pos < (noted m).word 2 then _ else M.attempt _ _ _ (m.pos - (noted m).word 2) _) = _
  rw [this, if_neg (Nat.not_lt_zero _), Nat.sub_zero]
  try rfl

/-- the pattern of a dot at a line's begin -/
def code1 : Array Nat := #[14, 4, 0, 1, 1, 6, 1, 16, 46, 1]
/-- the pattern of a line's end -/
def code2 : Array Nat := #[14, 9, 4, 1, 2, 16, 10, 16, 13, 0, 7, 7, 16, 13, 16, 10, 15, 18, 5, 16, 10, 15, 13, 11, 16, 13, 5, 5, 0, 16, 10, 1, 15, 2, 0, 1]

/-- a machine at work, without groups and loops -/
abbrev mk1 (c t : Array Nat) (st : Nat) (must : Bool) (pc pos hd : Nat) (om : Bool) (fr : List Frame) (wt : Nat) (an : Option Bool) (sn : Seen) (oc : Option Outcome) : M :=
  { code := c, text := t, lim := t.size, start := st, lastStart := t.size, wholeText := false, mustAdvance := must, pc := pc, pos := pos, handed := hd, outermost := om, marks := #[], lastmark := -1, lastindex := -1, loops := #[], inner := none, frames := fr, weight := wt, answer := an, seen := sn, outcome := oc }

abbrev fr1 (pc pos : Nat) (om : Bool) : Frame := { wait := .nextStart, pc := pc, pos := pos, outermost := om }

/-- the end: a match, or none -/
def end1 (m : M) (r : Option (Nat × Nat)) : Prop := match r with
  | some (b, e) => m.outcome = some .matched ∧ m.start = b ∧ m.handed = e
  | none => m.outcome = some .failed

section
variable {c t : Array Nat} {st : Nat} {must : Bool} {pc pos hd : Nat} {om : Bool} {fr : List Frame} {wt : Nat} {sn : Seen}
theorem m_AT (hp : pc < c.size) (h : ops[c.getD pc 0]? = some .AT) (h1 : c.getD (pc + 1) 0 = 1) :
    ∃ sn', (mk1 c t st must pc pos hd om fr wt none sn none).step =
      if (pos == 0 || t.getD (pos - 1) 0 == 10) = true then mk1 c t st must (pc + 2) pos hd om fr wt none sn' none else mk1 c t st must pc pos hd om fr wt (some false) sn' none := by
  refine ⟨(sn.add (c.getD pc 0)).add (43 + c.getD (pc + 1) 0), ?_⟩
  rw [step_run rfl rfl hp, exec_AT (m := mk1 c t st must pc pos hd om fr wt none sn none) h (y := (pos == 0 || t.getD (pos - 1) 0 == 10)) (by
    show M.isAt _ (c.getD (pc + 1) 0) = _
    rw [h1]
    rfl)]
  by_cases hq : (pos == 0 || t.getD (pos - 1) 0 == 10) = true
  · rw [if_pos hq, if_pos hq]; rfl
  · rw [if_neg hq, if_neg hq]; rfl
theorem m_LIT {x : Nat} (hp : pc < c.size) (h : ops[c.getD pc 0]? = some .LITERAL) (h1 : c.getD (pc + 1) 0 = x) :
    ∃ sn', (mk1 c t st must pc pos hd om fr wt none sn none).step =
      if pos < t.size ∧ t.getD pos 0 = x then mk1 c t st must (pc + 2) (pos + 1) hd om fr wt none sn' none else mk1 c t st must pc pos hd om fr wt (some false) sn' none := by
  refine ⟨sn.add (c.getD pc 0), ?_⟩
  rw [step_run rfl rfl hp, exec_LIT (m := mk1 c t st must pc pos hd om fr wt none sn none) h]
  show (if pos ≥ t.size then _ else if (t.getD pos 0 == c.getD (pc + 1) 0) = true then _ else _) = _
  rw [h1]
  by_cases hlt : pos < t.size
  · rw [if_neg (Nat.not_le.mpr hlt)]
    by_cases hx : t.getD pos 0 = x
    · rw [if_pos (beq_iff_eq.mpr hx), if_pos ⟨hlt, hx⟩]; rfl
    · rw [if_neg (fun e => hx (beq_iff_eq.mp e)), if_neg (fun e => hx e.2)]; rfl
  · rw [if_pos (Nat.not_lt.mp hlt), if_neg (fun e => hlt e.1)]; rfl
theorem m_SUC (hp : pc < c.size) (h : ops[c.getD pc 0]? = some .SUCCESS) (hs : (om && must && pos == st) = false) :
    ∃ sn', (mk1 c t st must pc pos hd om fr wt none sn none).step = mk1 c t st must pc pos pos om fr wt (some true) sn' none := by
  refine ⟨sn.add (c.getD pc 0), ?_⟩
  rw [step_run rfl rfl hp, exec_SUC (m := mk1 c t st must pc pos hd om fr wt none sn none) h]
  show (if (om && ((false && _) || (must && pos == st))) = true then _ else _) = _
  have : (om && ((false && pos != t.size) || (must && pos == st))) = false := by simpa [Bool.and_assoc] using hs
  rw [if_neg (by rw [this]; exact Bool.false_ne_true)]
  rfl
theorem m_JUMP {x : Nat} (hp : pc < c.size) (h : ops[c.getD pc 0]? = some .JUMP) (h1 : c.getD (pc + 1) 0 = x) :
    ∃ sn', (mk1 c t st must pc pos hd om fr wt none sn none).step = mk1 c t st must (pc + 1 + x) pos hd om fr wt none sn' none := by
  refine ⟨sn.add (c.getD pc 0), ?_⟩
  subst h1
  rw [step_run rfl rfl hp, exec_JUMP (m := mk1 c t st must pc pos hd om fr wt none sn none) h]
  rfl
/-- no match from here: on to the next place, by an attempt -/
theorem m_next {p1 : Nat} {om1 : Bool} (hl : st < t.size) : (mk1 c t st must pc pos hd om [fr1 p1 st om1] 1 (some false) sn none).step = M.attemptFrom (mk1 c t st false p1 st hd om1 [] 0 none sn none) (st + 1) false := by
  rw [step_back rfl rfl rfl]
  show M.resume _ (fr1 p1 st om1) false = _
  unfold M.resume
  simp only [Bool.false_eq_true, if_false]
  rw [if_pos (by exact hl)]
  rfl
theorem m_stop {p1 : Nat} {om1 : Bool} : ∃ k ≤ 2, end1 (runFor k (mk1 c t t.size must pc pos hd om [fr1 p1 t.size om1] 1 (some false) sn none)) none := by
  have e1 : (mk1 c t t.size must pc pos hd om [fr1 p1 t.size om1] 1 (some false) sn none).step = mk1 c t t.size must p1 t.size hd om1 [] 0 (some false) sn none := by
    rw [step_back rfl rfl rfl]
    show M.resume _ (fr1 p1 t.size om1) false = _
    unfold M.resume
    simp only [Bool.false_eq_true, if_false]
    rw [if_neg (Nat.lt_irrefl _)]
    rfl
  refine ⟨2, Nat.le_refl _, ?_⟩
  rw [runFor_succ, e1, runFor_succ, step_end (m := mk1 c t t.size must p1 t.size hd om1 [] 0 (some false) sn none) rfl rfl rfl]
  rfl
theorem m_found {p1 q1 : Nat} {om1 : Bool} : ∃ k ≤ 2, end1 (runFor k (mk1 c t st must pc pos hd om [fr1 p1 q1 om1] 1 (some true) sn none)) (some (st, hd)) := by
  have e1 : (mk1 c t st must pc pos hd om [fr1 p1 q1 om1] 1 (some true) sn none).step = mk1 c t st must p1 q1 hd om1 [] 0 (some true) sn none := by
    rw [step_back rfl rfl rfl]
    show M.resume _ (fr1 p1 q1 om1) true = _
    unfold M.resume
    simp only [if_true]
    rfl
  refine ⟨2, Nat.le_refl _, ?_⟩
  rw [runFor_succ, e1, runFor_succ, step_end (m := mk1 c t st must p1 q1 hd om1 [] 0 (some true) sn none) rfl rfl rfl]
  exact ⟨rfl, rfl, rfl⟩
end
/-- some steps, then more -/
theorem more1 {m m' : M} {j n : Nat} {r : Option (Nat × Nat)} (e : runFor j m = m') (h : ∃ k ≤ n, end1 (runFor k m') r) : ∃ k ≤ j + n, end1 (runFor k m) r := by
  obtain ⟨k, hk, he⟩ := h
  exact ⟨j + k, by omega, by rw [runFor_add, e]; exact he⟩
theorem step1 {m m' : M} {n : Nat} {r : Option (Nat × Nat)} (e : m.step = m') (h : ∃ k ≤ n, end1 (runFor k m') r) : ∃ k ≤ n + 1, end1 (runFor k m) r := by
  obtain ⟨k, hk, he⟩ := h
  exact ⟨k + 1, by omega, by rw [runFor_succ, e]; exact he⟩
theorem le1 {m : M} {n n' : Nat} {r : Option (Nat × Nat)} (h : ∃ k ≤ n, end1 (runFor k m) r) (hn : n ≤ n') : ∃ k ≤ n', end1 (runFor k m) r := by
  obtain ⟨k, hk, he⟩ := h
  exact ⟨k, by omega, he⟩

/-- at an attempt's begin: first pattern -/
abbrev at1 (t : Array Nat) (s : Nat) (must om : Bool) (sn : Seen) : M := mk1 code1 t s must 5 s s om [fr1 5 s om] 1 none sn none
theorem from1 (t : Array Nat) (st : Nat) (must : Bool) (pos hd : Nat) (om first : Bool) (sn : Seen) (s : Nat) :
    M.attemptFrom (mk1 code1 t st must 5 pos hd om [] 0 none sn none) s first = at1 t s must first sn := by
  unfold M.attemptFrom
  rw [if_pos (by rfl)]
  rfl

/-- the first dot at a line's begin: how far it lies -/
def scan1 : Bool → List Nat → Option Nat
  | _, [] => none
  | b, c :: r => if (b && c == 46) = true then some 0 else (scan1 (c == 10) r).map (· + 1)

theorem run1 (t : Array Nat) : ∀ (l : List Nat) (s : Nat) (must om : Bool) (sn : Seen), t.toList.drop s = l → s ≤ t.size →
    ∃ k ≤ 4 * l.length + 8, end1 (runFor k (at1 t s must om sn)) ((scan1 (s == 0 || t.getD (s - 1) 0 == 10) l).map fun g => (s + g, s + g + 1))
  | [], s, must, om, sn, hl, hs => by
    have : s = t.size := by
      have := congrArg List.length hl
      simp at this; omega
    subst this
    show ∃ k ≤ 8, end1 _ none
    obtain ⟨sn1, e1⟩ := m_AT (c := code1) (t := t) (st := t.size) (must := must) (pc := 5) (pos := t.size) (hd := t.size) (om := om) (fr := [fr1 5 t.size om]) (wt := 1) (sn := sn) (by decide) rfl rfl
    split at e1
    · obtain ⟨sn2, e2⟩ := m_LIT (c := code1) (t := t) (st := t.size) (must := must) (pc := 7) (pos := t.size) (hd := t.size) (om := om) (fr := [fr1 5 t.size om]) (wt := 1) (sn := sn1) (by decide) rfl rfl
      rw [if_neg (fun h => Nat.lt_irrefl _ h.1)] at e2
      exact le1 (step1 e1 (step1 e2 m_stop)) (by omega)
    · exact le1 (step1 e1 m_stop) (by omega)
  | c :: r, s, must, om, sn, hl, hs => by
    have hlt : s < t.size := by
      have := congrArg List.length hl
      simp at this; omega
    have hc : t.getD s 0 = c := by
      have := congrArg (·[0]?) hl
      simp at this
      simp [Array.getD, hlt]
      simpa [hlt] using this
    have hr : t.toList.drop (s + 1) = r := by
      have := congrArg (List.drop 1) hl
      simpa using this
    have hb : (s + 1 == 0 || t.getD (s + 1 - 1) 0 == 10) = (c == 10) := by
      rw [Nat.add_sub_cancel, hc]; simp
    have ih := fun sn => run1 t r (s + 1) false false sn hr hlt
    rw [hb] at ih
    have later : ∀ {m : M} {sn1 : Seen} {pos hd pc : Nat}, m = mk1 code1 t s must pc pos hd om [fr1 5 s om] 1 (some false) sn1 none →
        ∃ k ≤ 4 * r.length + 9, end1 (runFor k m) (((scan1 (c == 10) r).map (· + 1)).map fun g => (s + g, s + g + 1)) := by
      intro m sn1 pos hd pc hm
      subst hm
      refine step1 ((m_next hlt).trans (from1 ..)) ?_
      rw [Option.map_map]
      have : ((fun g => (s + g, s + g + 1)) ∘ fun x => x + 1) = fun g => (s + 1 + g, s + 1 + g + 1) := by
        funext g; simp only [Function.comp]; congr 1 <;> omega
      rw [this]; exact ih _
    have hcl : (c :: r).length = r.length + 1 := rfl
    obtain ⟨sn1, e1⟩ := m_AT (c := code1) (t := t) (st := s) (must := must) (pc := 5) (pos := s) (hd := s) (om := om) (fr := [fr1 5 s om]) (wt := 1) (sn := sn) (by decide) rfl rfl
    cases hbol : (s == 0 || t.getD (s - 1) 0 == 10) with
    | false =>
      rw [hbol] at e1
      have hsc : scan1 false (c :: r) = (scan1 (c == 10) r).map (· + 1) := by simp [scan1]
      rw [hsc]
      exact le1 (step1 e1 (later rfl)) (by omega)
    | true =>
      rw [hbol] at e1
      obtain ⟨sn2, e2⟩ := m_LIT (c := code1) (t := t) (st := s) (must := must) (pc := 7) (pos := s) (hd := s) (om := om) (fr := [fr1 5 s om]) (wt := 1) (sn := sn1) (by decide) rfl rfl
      rw [hc] at e2
      by_cases hdot : c = 46
      · rw [if_pos ⟨hlt, hdot⟩] at e2
        obtain ⟨sn3, e3⟩ := m_SUC (c := code1) (t := t) (st := s) (must := must) (pc := 9) (pos := s + 1) (hd := s) (om := om) (fr := [fr1 5 s om]) (wt := 1) (sn := sn2) (by decide) rfl (by simp)
        have hsc : scan1 true (c :: r) = some 0 := by simp [scan1, hdot]
        rw [hsc]
        exact le1 (step1 e1 (step1 e2 (step1 e3 m_found))) (by omega)
      · rw [if_neg (fun h => hdot h.2)] at e2
        have hsc : scan1 true (c :: r) = (scan1 (c == 10) r).map (· + 1) := by simp [scan1, hdot]
        rw [hsc]
        exact le1 (step1 e1 (step1 e2 (later rfl))) (by omega)

theorem hdr1 : header code1 = (1, 5) := by decide
/-- the first pattern's search from a place -/
theorem search1 (t : Array Nat) (s : Nat) (must : Bool) (hs : s ≤ t.size) :
    ∃ k ≤ 4 * t.size + 8, end1 (runFor k (forSearch code1 t 0 s t.size must)) ((scan1 (s == 0 || t.getD (s - 1) 0 == 10) (t.toList.drop s)).map fun g => (s + g, s + g + 1)) := by
  by_cases h : t.size - s < 1
  · have : s = t.size := by omega
    subst this
    have hn : t.toList.drop t.size = [] := by simp
    rw [hn]
    have e : forSearch code1 t 0 t.size t.size must = { mk1 code1 t t.size must 5 t.size t.size true [] 0 (some false) (({} : Seen).add 14) none with lastStart := 0 } := by
      unfold forSearch
      simp only [hdr1]
      rw [if_pos (by simp)]
      rfl
    rw [e]
    refine ⟨1, by omega, ?_⟩
    rw [runFor_succ, step_end (yes := false) rfl rfl rfl]
    rfl
  · have e : forSearch code1 t 0 s t.size must = at1 t s must true (({} : Seen).add 14) := by
      unfold forSearch
      simp only [hdr1]
      rw [if_neg (by simp; omega)]
      rfl
    rw [e]
    exact le1 (run1 t _ s must true _ rfl hs) (by simp; omega)

/- the second pattern -/
abbrev brf (pc pos : Nat) (om : Bool) : Frame := { wait := .nextBranch, pc := pc, pos := pos, outermost := om }
abbrev nof (pc pos : Nat) (om : Bool) : Frame := { wait := .lookNot, pc := pc, pos := pos, outermost := om }
section
variable {c t : Array Nat} {st : Nat} {must : Bool} {pc pos hd : Nat} {om om1 : Bool} {fr : List Frame} {wt p q : Nat} {sn : Seen}
theorem alt_on {alt : Nat} (ha : (c.getD alt 0 == 0) = false) (hw : wt + 1 + 0 ≤ 16777216) :
    M.alternative (mk1 c t st must p q hd om fr wt none sn none) alt {} = mk1 c t st must (alt + 1) q q om (brf alt q om :: fr) (wt + 1) none sn none := by
  unfold M.alternative
  rw [if_neg (by show ¬ (c.getD alt 0 == 0) = true; rw [ha]; exact Bool.false_ne_true)]
  unfold M.attempt
  rw [if_neg (by show ¬ (wt + 1 + 0 > 16777216); omega)]
  rfl
theorem m_BR (hp : pc < c.size) (h : ops[c.getD pc 0]? = some .BRANCH) (ha : (c.getD (pc + 1) 0 == 0) = false) (hw : wt + 1 + 0 ≤ 16777216) :
    ∃ sn', (mk1 c t st must pc pos hd om fr wt none sn none).step = mk1 c t st must (pc + 1 + 1) pos pos om (brf (pc + 1) pos om :: fr) (wt + 1) none sn' none := by
  refine ⟨sn.add (c.getD pc 0), ?_⟩
  rw [step_run rfl rfl hp, exec_BRANCH (m := mk1 c t st must pc pos hd om fr wt none sn none) h]
  exact alt_on (p := pc) (q := pos) (sn := sn.add (c.getD pc 0)) ha hw
theorem m_br_yes : (mk1 c t st must pc pos hd om (brf p q om1 :: fr) (wt + 1) (some true) sn none).step = mk1 c t st must p q hd om1 fr wt (some true) sn none := by
  rw [step_back rfl rfl rfl]
  show M.resume _ (brf p q om1) true = _
  unfold M.resume
  simp only [if_true]
  rfl
theorem m_br_no {alt : Nat} (e : p + c.getD p 0 = alt) (ha : (c.getD alt 0 == 0) = false) (hw : wt + 1 + 0 ≤ 16777216) :
    (mk1 c t st must pc pos hd om (brf p q om1 :: fr) (wt + 1) (some false) sn none).step = mk1 c t st must (alt + 1) q q om1 (brf alt q om1 :: fr) (wt + 1) none sn none := by
  subst e
  rw [step_back rfl rfl rfl]
  show M.resume _ (brf p q om1) false = _
  unfold M.resume
  simp only [Bool.false_eq_true, if_false]
  exact alt_on (p := p) (q := q) (om := om1) ha hw
theorem m_NOT (hp : pc < c.size) (h : ops[c.getD pc 0]? = some .ASSERT_NOT) (h0 : c.getD (pc + 2) 0 = 0) (hw : wt + 1 + 0 ≤ 16777216) :
    ∃ sn', (mk1 c t st must pc pos hd om fr wt none sn none).step = mk1 c t st must (pc + 3) pos pos false (nof pc pos om :: fr) (wt + 1) none sn' none := by
  refine ⟨sn.add (c.getD pc 0), ?_⟩
  rw [step_run rfl rfl hp, exec_NOT (m := mk1 c t st must pc pos hd om fr wt none sn none) h h0]
  unfold M.attempt
  rw [if_neg (by show ¬ (wt + 1 + 0 > 16777216); omega)]
  rfl
theorem m_no_no {x : Nat} (h1 : c.getD (p + 1) 0 = x) : (mk1 c t st must pc pos hd om (nof p q om1 :: fr) (wt + 1) (some false) sn none).step = mk1 c t st must (p + 1 + x) q hd om1 fr wt none sn none := by
  subst h1
  rw [step_back rfl rfl rfl]
  show M.resume _ (nof p q om1) false = _
  unfold M.resume
  simp only [Bool.false_eq_true, if_false]
  rfl
end

abbrev at2 (t : Array Nat) (s : Nat) (must om : Bool) (sn : Seen) : M := mk1 code2 t s must 10 s s om [fr1 10 s om] 1 none sn none
theorem suc2 {t : Array Nat} {s p hd q : Nat} {must om : Bool} {sn : Seen} (hs : s < p) :
    ∃ k ≤ 4, end1 (runFor k (mk1 code2 t s must 35 p hd om [brf q s om, fr1 10 s om] 2 none sn none)) (some (s, p)) := by
  obtain ⟨sn1, e1⟩ := m_SUC (c := code2) (t := t) (st := s) (must := must) (pc := 35) (pos := p) (hd := hd) (om := om) (fr := [brf q s om, fr1 10 s om]) (wt := 2) (sn := sn) (by decide) rfl
    (by have : (p == s) = false := by simp; omega
        rw [this, Bool.and_false])
  exact step1 e1 (step1 m_br_yes m_found)
theorem go2 (t : Array Nat) (s : Nat) (must om : Bool) (sn : Seen) (hlt : s < t.size) (hc : t.getD s 0 = 13 ∨ t.getD s 0 = 10) :
    ∃ k ≤ 20, end1 (runFor k (at2 t s must om sn)) (some (s, if t.getD s 0 = 13 ∧ s + 1 < t.size ∧ t.getD (s + 1) 0 = 10 then s + 2 else s + 1)) := by
  obtain ⟨sn1, e1⟩ := m_BR (c := code2) (t := t) (st := s) (must := must) (pc := 10) (pos := s) (hd := s) (om := om) (fr := [fr1 10 s om]) (wt := 1) (sn := sn) (by decide) rfl rfl (by omega)
  obtain ⟨sn2, e2⟩ := m_LIT (x := 13) (c := code2) (t := t) (st := s) (must := must) (pc := 12) (pos := s) (hd := s) (om := om) (fr := [brf 11 s om, fr1 10 s om]) (wt := 2) (sn := sn1) (by decide) rfl rfl
  by_cases h13 : t.getD s 0 = 13
  · rw [if_pos ⟨hlt, h13⟩] at e2
    obtain ⟨sn3, e3⟩ := m_LIT (x := 10) (c := code2) (t := t) (st := s) (must := must) (pc := 14) (pos := s + 1) (hd := s) (om := om) (fr := [brf 11 s om, fr1 10 s om]) (wt := 2) (sn := sn2) (by decide) rfl rfl
    by_cases h10 : s + 1 < t.size ∧ t.getD (s + 1) 0 = 10
    · rw [if_pos h10] at e3
      rw [if_pos ⟨h13, h10⟩]
      obtain ⟨sn4, e4⟩ := m_JUMP (x := 18) (c := code2) (t := t) (st := s) (must := must) (pc := 16) (pos := s + 2) (hd := s) (om := om) (fr := [brf 11 s om, fr1 10 s om]) (wt := 2) (sn := sn3) (by decide) rfl rfl
      exact le1 (step1 e1 (step1 e2 (step1 e3 (step1 e4 (suc2 (by omega)))))) (by omega)
    · rw [if_neg h10] at e3
      rw [if_neg (fun h => h10 h.2)]
      have e4 := m_br_no (c := code2) (t := t) (st := s) (must := must) (pc := 14) (pos := s + 1) (hd := s) (om := om) (om1 := om) (p := 11) (q := s) (fr := [fr1 10 s om]) (wt := 1) (sn := sn3) (alt := 18) rfl rfl (by omega)
      obtain ⟨sn5, e5⟩ := m_LIT (x := 10) (c := code2) (t := t) (st := s) (must := must) (pc := 19) (pos := s) (hd := s) (om := om) (fr := [brf 18 s om, fr1 10 s om]) (wt := 2) (sn := sn3) (by decide) rfl rfl
      rw [if_neg (by intro h; rw [h13] at h; omega)] at e5
      have e6 := m_br_no (c := code2) (t := t) (st := s) (must := must) (pc := 19) (pos := s) (hd := s) (om := om) (om1 := om) (p := 18) (q := s) (fr := [fr1 10 s om]) (wt := 1) (sn := sn5) (alt := 23) rfl rfl (by omega)
      obtain ⟨sn7, e7⟩ := m_LIT (x := 13) (c := code2) (t := t) (st := s) (must := must) (pc := 24) (pos := s) (hd := s) (om := om) (fr := [brf 23 s om, fr1 10 s om]) (wt := 2) (sn := sn5) (by decide) rfl rfl
      rw [if_pos ⟨hlt, h13⟩] at e7
      obtain ⟨sn8, e8⟩ := m_NOT (c := code2) (t := t) (st := s) (must := must) (pc := 26) (pos := s + 1) (hd := s) (om := om) (fr := [brf 23 s om, fr1 10 s om]) (wt := 2) (sn := sn7) (by decide) rfl rfl (by omega)
      obtain ⟨sn9, e9⟩ := m_LIT (x := 10) (c := code2) (t := t) (st := s) (must := must) (pc := 29) (pos := s + 1) (hd := s + 1) (om := false) (fr := [nof 26 (s + 1) om, brf 23 s om, fr1 10 s om]) (wt := 3) (sn := sn8) (by decide) rfl rfl
      rw [if_neg h10] at e9
      have e10 := m_no_no (x := 5) (c := code2) (t := t) (st := s) (must := must) (pc := 29) (pos := s + 1) (hd := s + 1) (om := false) (om1 := om) (p := 26) (q := s + 1) (fr := [brf 23 s om, fr1 10 s om]) (wt := 2) (sn := sn9) rfl
      obtain ⟨sn11, e11⟩ := m_JUMP (x := 2) (c := code2) (t := t) (st := s) (must := must) (pc := 32) (pos := s + 1) (hd := s + 1) (om := om) (fr := [brf 23 s om, fr1 10 s om]) (wt := 2) (sn := sn9) (by decide) rfl rfl
      exact le1 (step1 e1 (step1 e2 (step1 e3 (step1 e4 (step1 e5 (step1 e6 (step1 e7 (step1 e8 (step1 e9 (step1 e10 (step1 e11 (suc2 (by omega))))))))))))) (by omega)
  · have h10 : t.getD s 0 = 10 := hc.resolve_left h13
    rw [if_neg (fun h => h13 h.2)] at e2
    rw [if_neg (fun h => h13 h.1)]
    have e3 := m_br_no (c := code2) (t := t) (st := s) (must := must) (pc := 12) (pos := s) (hd := s) (om := om) (om1 := om) (p := 11) (q := s) (fr := [fr1 10 s om]) (wt := 1) (sn := sn2) (alt := 18) rfl rfl (by omega)
    obtain ⟨sn4, e4⟩ := m_LIT (x := 10) (c := code2) (t := t) (st := s) (must := must) (pc := 19) (pos := s) (hd := s) (om := om) (fr := [brf 18 s om, fr1 10 s om]) (wt := 2) (sn := sn2) (by decide) rfl rfl
    rw [if_pos ⟨hlt, h10⟩] at e4
    obtain ⟨sn5, e5⟩ := m_JUMP (x := 13) (c := code2) (t := t) (st := s) (must := must) (pc := 21) (pos := s + 1) (hd := s) (om := om) (fr := [brf 18 s om, fr1 10 s om]) (wt := 2) (sn := sn4) (by decide) rfl rfl
    exact le1 (step1 e1 (step1 e2 (step1 e3 (step1 e4 (step1 e5 (suc2 (by omega))))))) (by omega)

/-- the first line's end: how far it lies, how long it is -/
def scan2 : List Nat → Option (Nat × Nat)
  | [] => none
  | c :: r => if c = 13 then some (0, if r.head? = some 10 then 2 else 1) else if c = 10 then some (0, 1) else (scan2 r).map fun p => (p.1 + 1, p.2)

theorem inSet2 (c : Nat) (sn : Seen) : ∃ sn', inSet code2 c code2.size 5 true sn = .ok (c == 10 || c == 13, sn') := by
  show ∃ sn', inSet code2 c (35 + 1) 5 true sn = _
  unfold inSet
  show ∃ sn', (if (c == 10) = true then _ else _) = _
  by_cases h : (c == 10) = true
  · rw [if_pos h, h]; exact ⟨_, rfl⟩
  · rw [if_neg h]
    unfold inSet
    show ∃ sn', (if (c == 13) = true then _ else _) = _
    by_cases h' : (c == 13) = true
    · rw [if_pos h', h', Bool.or_true]; exact ⟨_, rfl⟩
    · rw [if_neg h']
      rw [Bool.not_eq_true] at h h'
      rw [h, h']
      exact ⟨_, rfl⟩
theorem admitted2 (m : M) (hm : m.code = code2) (hlim : m.lim = m.text.size) : ∀ (l : List Nat) (s fuel : Nat) (sn : Seen), m.text.toList.drop s = l → s ≤ m.text.size → l.length < fuel →
    ∃ sn', admitted m fuel s sn = .ok ((scan2 l).map fun p => s + p.1, sn')
  | [], s, fuel, sn, hl, hs, hf => by
    have : s = m.text.size := by
      have := congrArg List.length hl
      simp at this; omega
    obtain ⟨f, rfl⟩ : ∃ f, fuel = f + 1 := ⟨fuel - 1, by simp at hf; omega⟩
    unfold admitted
    rw [if_pos (by rw [hlim]; omega)]
    exact ⟨_, rfl⟩
  | c :: r, s, fuel, sn, hl, hs, hf => by
    have hlt : s < m.text.size := by
      have := congrArg List.length hl
      simp at this; omega
    have hc : m.text.getD s 0 = c := by
      have := congrArg (·[0]?) hl
      simp at this
      simp [Array.getD, hlt]
      simpa [hlt] using this
    have hr : m.text.toList.drop (s + 1) = r := by
      have := congrArg (List.drop 1) hl
      simpa using this
    obtain ⟨f, rfl⟩ : ∃ f, fuel = f + 1 := ⟨fuel - 1, by simp at hf; omega⟩
    unfold admitted
    rw [if_neg (by rw [hlim]; omega), hc, hm]
    obtain ⟨sn1, e⟩ := inSet2 c sn
    rw [e]
    by_cases h : (c == 10 || c == 13) = true
    · rw [h]
      refine ⟨sn1, ?_⟩
      have : scan2 (c :: r) = some (0, if c = 13 then (if r.head? = some 10 then 2 else 1) else 1) := by
        unfold scan2
        simp at h
        rcases h with h | h <;> simp [h]
      rw [this]
      rfl
    · rw [Bool.not_eq_true] at h
      rw [h]
      obtain ⟨sn2, e2⟩ := admitted2 m hm hlim r (s + 1) f sn1 hr hlt (by simp at hf; omega)
      refine ⟨sn2, ?_⟩
      show admitted m f (s + 1) sn1 = _
      rw [e2]
      have : scan2 (c :: r) = (scan2 r).map fun p => (p.1 + 1, p.2) := by
        simp at h
        rw [scan2]
        simp [h]
      rw [this, Option.map_map]
      congr 3
      funext p
      simp only [Function.comp]; omega

theorem scan2_at : ∀ (l : List Nat) (g k : Nat), scan2 l = some (g, k) → ∃ c r, l.drop g = c :: r ∧ (c = 13 ∨ c = 10) ∧ k = if c = 13 ∧ r.head? = some 10 then 2 else 1
  | [], _, _, h => by cases h
  | c :: r, g, k, h => by
    rw [scan2] at h
    by_cases h1 : c = 13
    · rw [if_pos h1] at h
      cases h
      exact ⟨c, r, rfl, .inl h1, by simp [h1]⟩
    · rw [if_neg h1] at h
      by_cases h2 : c = 10
      · rw [if_pos h2] at h
        cases h
        exact ⟨c, r, rfl, .inr h2, by simp [h1]⟩
      · rw [if_neg h2] at h
        cases hs : scan2 r with
        | none => rw [hs] at h; cases h
        | some p =>
          rw [hs] at h
          cases h
          obtain ⟨c', r', a, b, d⟩ := scan2_at r p.1 p.2 hs
          exact ⟨c', r', a, b, d⟩

theorem hdr2 : header code2 = (1, 10) := by decide
/-- the second pattern's search from a place -/
theorem search2 (t : Array Nat) (s : Nat) (must : Bool) (hs : s ≤ t.size) :
    ∃ k ≤ 20, end1 (runFor k (forSearch code2 t 0 s t.size must)) ((scan2 (t.toList.drop s)).map fun p => (s + p.1, s + p.1 + p.2)) := by
  by_cases h : t.size - s < 1
  · have : s = t.size := by omega
    subst this
    have hn : t.toList.drop t.size = [] := by simp
    rw [hn]
    have e : forSearch code2 t 0 t.size t.size must = { mk1 code2 t t.size must 10 t.size t.size true [] 0 (some false) (({} : Seen).add 14) none with lastStart := 0 } := by
      unfold forSearch
      simp only [hdr2]
      rw [if_pos (by simp)]
      rfl
    rw [e]
    refine ⟨1, by omega, ?_⟩
    rw [runFor_succ, step_end (yes := false) rfl rfl rfl]
    rfl
  · have e : forSearch code2 t 0 s t.size must = M.attemptFrom (mk1 code2 t s must 10 s s true [] 0 none (({} : Seen).add 14) none) s true := by
      unfold forSearch
      simp only [hdr2]
      rw [if_neg (by simp; omega)]
      rfl
    rw [e]
    unfold M.attemptFrom
    rw [if_neg (by exact fun h => Bool.false_ne_true h)]
    obtain ⟨sn1, ea⟩ := admitted2 (mk1 code2 t s must 10 s s true [] 0 none (({} : Seen).add 14) none) rfl rfl _ s (t.size + 1 - s) (({} : Seen).add 14) rfl hs (by simp; omega)
    show ∃ k ≤ 20, end1 (runFor k (match admitted (mk1 code2 t s must 10 s s true [] 0 none (({} : Seen).add 14) none) (t.size + 1 - s) s (({} : Seen).add 14) with
      | .ok (some s, seen) => _
      | .ok (none, seen) => _
      | .error why => _)) _
    rw [ea]
    cases hsc : scan2 (t.toList.drop s) with
    | none =>
      refine ⟨1, by omega, ?_⟩
      show end1 (runFor 1 (M.say (mk1 code2 t s must 10 s s true [] 0 none sn1 none) false)) none
      rw [runFor_succ, step_end (yes := false) rfl rfl rfl]
      rfl
    | some p =>
      obtain ⟨c, r, h1, h2, h3⟩ := scan2_at _ p.1 p.2 hsc
      rw [List.drop_drop] at h1
      have hlt : s + p.1 < t.size := by
        have := congrArg List.length h1
        simp at this; omega
      have hc : t.getD (s + p.1) 0 = c := by
        have := congrArg (·[0]?) h1
        simp at this
        simp [Array.getD, hlt]
        simpa [hlt] using this
      have hr : (r.head? = some 10) ↔ (s + p.1 + 1 < t.size ∧ t.getD (s + p.1 + 1) 0 = 10) := by
        have := congrArg (·[1]?) h1
        simp at this
        rw [List.head?_eq_getElem?, ← this]
        by_cases hl : s + p.1 + 1 < t.size
        · simp [Array.getD, hl]
        · simp [Array.getD, hl]
      have := go2 t (s + p.1) false true sn1 hlt (hc ▸ h2)
      rw [hc] at this
      simp only [hr] at h3
      show ∃ k ≤ 20, end1 (runFor k (at2 t (s + p.1) false true sn1)) (some (s + p.1, s + p.1 + p.2))
      rw [h3]
      by_cases hq : c = 13 ∧ s + p.1 + 1 < t.size ∧ t.getD (s + p.1 + 1) 0 = 10
      · rw [if_pos hq] at this ⊢; exact this
      · rw [if_neg hq] at this ⊢; exact this
end Mine
end
-- T1
section
open PySem PySem.W PyProof.Rows
namespace Mine
theorem slot_sub : Slot "re.Pattern" "sub" "re.Pattern.sub" :=
  .of (owner := "re.Pattern") (n := "sub") (by rw [typeLookup_type, builtinLookup_eq_fast]; kernel_rfl) (by decide +kernel) (by decide +kernel) (by decide +kernel)
    (by first | exact .inl (by decide +kernel) | exact .inr (by decide +kernel)) (by rw [isSubtype_type]; kernel_rfl)
theorem entry_sub : entryFor table "re.Pattern.sub" = some Builtin.«re.Pattern.sub» := entryFor_of_tree (by kernel_rfl)
theorem entry_loop : entryFor table "re.Pattern.sub.loop" = some Builtin.«re.Pattern.sub.loop» := entryFor_of_tree (by kernel_rfl)
theorem type_sub : typeOf (.builtin "re.Pattern.sub") = pure (.type "method_descriptor") := by show builtinType _ = _; rw [builtinType_eq_fast]; kernel_rfl
theorem args_sub_3 (a b c : Value) : argsOk "re.Pattern.sub" ⟨[a, b, c], []⟩ := by
  unfold argsOk; rw [signature?_of (id := "re.Pattern.sub") (n := ['b', 'u', 's']) (o := "re.Pattern".toList.reverse) (by kernel_rfl) (by first | rfl | decide +kernel | kernel_rfl)]; kernel_rfl
end Mine
end
-- R
section
open PySem PySem.W PyProof.Rows
namespace Mine
open PySem.Builtin.Re

section
variable {M : Model} {A : Around} {E : Value → Shared → Prop} {s : Shared}

theorem drive_of {Q : Sre.M → Shared → Prop} : ∀ (n : Nat) (m : Sre.M) (k : Nat), k ≤ 4 * n → 0 < n → (Sre.M.runFor k m).outcome.isSome = true → Q (Sre.M.runFor k m) s → wpAny M A (reDrive n m) Q E s
  | 0, _, _, _, h0, _, _ => absurd h0 (Nat.lt_irrefl _)
  | n + 1, m, k, hk, _, ho, hq => by
    unfold reDrive
    by_cases h4 : k ≤ 4
    · have e : Sre.M.runFor reTurnSteps m = Sre.M.runFor k m := by
        have : reTurnSteps = k + (4 - k) := by unfold reTurnSteps; omega
        rw [this, runFor_add, runFor_done ho]
      show wpAny M A (if (Sre.M.runFor reTurnSteps m).outcome.isSome = true then pure (Sre.M.runFor reTurnSteps m) else _) Q E s
      rw [e, if_pos ho]
      exact wpAny_pure hq
    · show wpAny M A (if (Sre.M.runFor reTurnSteps m).outcome.isSome = true then pure (Sre.M.runFor reTurnSteps m) else _) Q E s
      have e : Sre.M.runFor k m = Sre.M.runFor (k - 4) (Sre.M.runFor reTurnSteps m) := by
        have : k = reTurnSteps + (k - 4) := by unfold reTurnSteps; omega
        rw [← runFor_add, ← this]
      rw [e] at ho hq
      split
      · rename_i hi
        rw [runFor_done hi] at hq
        exact wpAny_pure hq
      · exact wpAny_bind (wpAny_rule (drive_of n _ (k - 4) (by omega) (by omega) ho hq))

theorem forIn_rule {α : Type} (body : α → PUnit → Sem (ForInStep PUnit)) (hb : ∀ a (s : Shared) (Q : ForInStep PUnit → Shared → Prop), Q (.yield ⟨⟩) s → wpAny M A (body a ⟨⟩) Q E s) {Q : PUnit → Shared → Prop} :
    ∀ l : List α, Q ⟨⟩ s → wpAny M A (forIn l ⟨⟩ body) Q E s
  | [], h => by rw [List.forIn_nil]; exact wpAny_pure h
  | a :: l, h => by
    rw [List.forIn_cons]
    refine wpAny_bind (hb a s _ ?_)
    exact forIn_rule body hb l h

theorem end_of {Q : Option Sre.M → Shared → Prop} {m : Sre.M} {K : Nat} {r : Option (Nat × Nat)} (h : ∃ k ≤ K, end1 (Sre.M.runFor k m) r) (hK : K ≤ 4 * 2 ^ 64)
    (hq : match r with | some (b, e) => ∀ m' : Sre.M, m'.start = b → m'.handed = e → Q (some m') s | none => Q none s) : wpAny M A (reRunToEnd m) Q E s := by
  obtain ⟨k, hk, he⟩ := h
  unfold reRunToEnd
  have ho : (Sre.M.runFor k m).outcome.isSome = true := by
    cases r with
    | none => unfold end1 at he; rw [he]; rfl
    | some p => unfold end1 at he; rw [he.1]; rfl
  refine wpAny_bind (drive_of _ m k (by omega) (by decide) ho ?_)
  refine wpAny_bind (forIn_rule _ ?_ _ ?_)
  · intro a s Q hQ
    split
    · exact wpAny_bind (wpAny_rule (wpAny_pure hQ))
    · exact wpAny_bind (wpAny_pure (wpAny_pure hQ))
  · cases r with
    | none =>
      unfold end1 at he
      rw [he]
      exact wpAny_pure hq
    | some p =>
      unfold end1 at he
      rw [he.1]
      exact wpAny_pure (hq _ he.2.1 he.2.2)
end

/-- all that stood stands -/
abbrev Ext (h h' : Heap) : Prop := ∀ b o, h.get? b = some o → h'.get? b = some o
theorem Ext.refl (h : Heap) : Ext h h := fun _ _ e => e
theorem Ext.trans {h₁ h₂ h₃ : Heap} (x : Ext h₁ h₂) (y : Ext h₂ h₃) : Ext h₁ h₃ := fun b o e => y b o (x b o e)
theorem Ext.push {h : Heap} (o : Obj) : Ext h (h.push o) := fun _ _ e => Heap.get?_push_of_some _ e

/-- a compiled pattern, without groups -/
def PatAt (h : Heap) (P : Addr) (code : Array Nat) : Prop := ∃ oP fs Pt oT vs n, h.get? P = some oP ∧ oP.cls = .type "re.Pattern" ∧ oP.dict = none ∧ oP.data = .fields fs ∧ reRawNat (fs.getD 6 .none) = 0 ∧ reRawNat (fs.getD 2 .none) = 0 ∧
  fs.getD 5 .none = .ref Pt ∧ h.get? Pt = some oT ∧ oT.data = .seq vs n ∧ (vs.map reRawOf).map (·.toNat) = code
theorem PatAt.ext {h h' : Heap} {P : Addr} {code : Array Nat} (x : PatAt h P code) (e : Ext h h') : PatAt h' P code := by
  obtain ⟨oP, fs, Pt, oT, vs, n, a, b, b', c, d, f, g, i, j, k⟩ := x
  exact ⟨oP, fs, Pt, oT, vs, n, e _ _ a, b, b', c, d, f, g, e _ _ i, j, k⟩
theorem PatAt.typeIs {s : Shared} {P : Addr} {code : Array Nat} (x : PatAt s.heap P code) : s.TypeIs (.ref P) "re.Pattern" := by
  obtain ⟨oP, fs, Pt, oT, vs, n, a, b, _⟩ := x
  exact ⟨oP, a, b⟩

section
variable {M : Model} {A : Around} {E : Value → Shared → Prop} {s : Shared}
theorem whole_rule {P : Addr} {code : Array Nat} {x : Str} {t : Tok} {Q : ReTarget → Shared → Prop} (h : PatAt s.heap P code)
    (hq : Q { pattern := .ref P, string := .str x t, code := code, text := x.cps, kind := 0, groups := 0, pos := 0, lim := x.cps.size } s) : wpAny M A (reWholeTarget (.ref P) (.str x t)) Q E s := by
  obtain ⟨oP, fs, Pt, oT, vs, n, a, b, _, c, d, f, g, i, j, k⟩ := h
  unfold reWholeTarget
  refine wpAny_bind (wpAny_fieldsOf a c ?_)
  have e1 : reTextOf (.str x t) = pure (x.cps, 0) := rfl
  rw [e1]
  refine wpAny_bind (wpAny_pure ?_)
  dsimp only
  rw [d]
  simp only [Nat.reduceBEq, Bool.and_false, Bool.and_true, Bool.false_eq_true, if_false, BEq.rfl]
  have e2 : reNoCollectionInside (.str x t) 0 = pure () := rfl
  rw [e2]
  try simp only [pure_bind]
  rw [g, f]
  unfold reRawItems
  refine wpAny_bind ?_
  refine wpAny_bind ?_
  show wpAny M A (do match (← load Pt).data with | .seq xs _ => pure (some xs) | _ => pure none) _ E s
  refine wpAny_bind (wpAny_load i ?_)
  rw [j]
  refine wpAny_pure (wpAny_pure ?_)
  refine wpAny_pure ?_
  show Q { pattern := .ref P, string := .str x t, code := ((vs.map reRawOf).map (·.toNat)), text := x.cps, kind := 0, groups := 0, pos := 0, lim := x.cps.size } s
  rw [k]
  exact hq
end

/-- what sub makes of a text: gaps and the replacement, from a place on -/
def subAll (t repl : List Nat) (next : Nat → Option (Nat × Nat)) : Nat → Nat → List Nat
  | 0, d => t.drop d
  | f + 1, d => match next d with
    | some (b, e) => (t.drop d).take (b - d) ++ repl ++ subAll t repl next f e
    | none => t.drop d

/-- a search that finds what next says -/
def Finds (code t : Array Nat) (next : Nat → Option (Nat × Nat)) : Prop :=
  ∀ s must, s ≤ t.size → (∃ k ≤ 4 * 2 ^ 64, end1 (Sre.M.runFor k (Sre.forSearch code t 0 s t.size must)) (next s)) ∧ ∀ b e, next s = some (b, e) → s ≤ b ∧ b < e ∧ e ≤ t.size

theorem extract_list (t : Array Nat) (b e : Nat) : (t.extract b e).toList = (t.toList.drop b).take (e - b) := by
  simp

section
variable {prog : Program} {w : World} {A : Around} {s : Shared}

theorem slice_rule {M : Model} {E : Value → Shared → Prop} {x : Array Nat} {b e : Nat} {Q : Value → Shared → Prop} (h : Q (.str ⟨x.extract b e⟩ s.toks) { s with toks := s.toks + 1 }) (hs : x.size ≤ sizeLine) :
    wpAny M A (reSlice x 0 b e) Q E s := by
  unfold reSlice
  rw [if_pos (by rfl)]
  refine wpAny_mkStr h ?_
  show (x.extract b e).size ≤ sizeLine
  rw [Array.size_extract]
  omega

theorem push_rule {M : Model} {E : Value → Shared → Prop} {hb : Heap} {a : Addr} {l : List (Str × Tok)} {n : Nat} {x : Str} {u : Tok} {Q : Unit → Shared → Prop}
    (ho : s.heap.get? a = some { cls := .type "list", data := .seq (strValues l).toArray n }) (hn : hb.get? a = none) (he : Ext hb s.heap) (hl : l.length ≤ sizeLine)
    (h : ∀ h' n', h'.get? a = some { cls := .type "list", data := .seq (strValues (l ++ [(x, u)])).toArray n' } → Ext hb h' → Q () { s with heap := h' }) :
    wpAny M A (updateSeq a (·.push (.str x u))) Q E s := by
  have hsz : (strValues l).toArray.size = l.length := by simp [strValues]
  refine wpAny_updateSeq ho rfl ?_ (by rw [hsz]; exact hl) (by rw [Array.size_push, hsz]; omega)
  refine h _ (if ((strValues l).toArray.push (.str x u)).size == (strValues l).toArray.size then n else n + 1) ?_ ?_
  · rw [Heap.get?_update_self _ ho rfl]
    simp [Obj.mapSeq, strValues]
  · intro b o e
    have hne : a ≠ b := by
      intro x; subst x; rw [hn] at e; cases e
    rw [Heap.get?_update_other _ _ hne]
    exact he b o e

abbrev texts (l : List (Str × Tok)) : List Nat := l.flatMap fun p => p.1.cps.toList

theorem texts_append (l l' : List (Str × Tok)) : texts (l ++ l') = texts l ++ texts l' := by simp [texts]

theorem join_texts : ∀ l : List (Str × Tok), (Str.join ⟨#[]⟩ (l.map (·.1))).cps.toList = texts l
  | [] => rfl
  | [p] => by simp [texts, Str.join]
  | p :: q :: r => by
    have ih := join_texts (q :: r)
    show (p.1 ++ (⟨#[]⟩ : Str) ++ Str.join ⟨#[]⟩ ((q :: r).map (·.1))).cps.toList = _
    have e : ∀ a b : Str, (a ++ b).cps.toList = a.cps.toList ++ b.cps.toList := fun a b => by
      show (a.cps ++ b.cps).toList = _
      simp
    rw [e, e, ih]
    simp [texts]
theorem sum_texts : ∀ l : List (Str × Tok), ((l.map (·.1)).map (·.length)).sum = (texts l).length
  | [] => rfl
  | p :: r => by
    have ih := sum_texts r
    simp only [List.map_cons, List.sum_cons, texts, List.flatMap_cons, List.length_append] at ih ⊢
    rw [ih]
    simp [Str.length]

/-- the sub's loop: a turn -/
theorem subTurn {code : Array Nat} {P : Addr} {x : Str} {t : Tok} {rp : Str} {u : Tok} {next : Nat → Option (Nat × Nat)} (hF : Finds code x.cps next) (hx : x.length ≤ sizeLine) (hrp : 0 < rp.length) {hb : Heap} {a : Addr} (hn : hb.get? a = none) (hP : PatAt hb P code) {R : Result → Shared → Prop}
    (done : Nat) (n : Int) (must : Bool) (l : List (Str × Tok)) (ep : Nat) (s : Shared) (rest : List Nat) (hd : done ≤ x.cps.size)
    (ho : s.heap.get? a = some { cls := .type "list", data := .seq (strValues l).toArray ep }) (he : Ext hb s.heap) (hll : l.length ≤ (texts l).length)
    (hsz : (texts l ++ rest).length ≤ sizeLine)
    (hq : match next done with
      | some (b, e) => (∃ r', rest = (x.cps.toList.drop done).take (b - done) ++ rp.cps.toList ++ r') ∧ ∀ (l' : List (Str × Tok)) (ep' : Nat) (h' : Heap) (k : Nat), h'.get? a = some { cls := .type "list", data := .seq (strValues l').toArray ep' } → Ext hb h' →
          texts l' = texts l ++ ((x.cps.toList.drop done).take (b - done) ++ rp.cps.toList) → l'.length ≤ (texts l').length →
          codeAny (model prog w) A (.builtin "re.Pattern.sub.loop" ⟨[.ref P, .str x t, .str rp u, rawInt 0, rawInt 0, rawInt (n + 1), rawInt e, rawInt e, .bool (e == b), .ref a, .bool false], []⟩) R { s with heap := h', toks := k }
      | none => rest = x.cps.toList.drop done ∧ ∀ (h' : Heap) (t' : Tok) (k : Nat), Ext hb h' → R (.ok (.ret (.str ⟨(texts l ++ x.cps.toList.drop done).toArray⟩ t'))) { s with heap := h', toks := k }) :
    codeAny (model prog w) A (.builtin "re.Pattern.sub.loop" ⟨[.ref P, .str x t, .str rp u, rawInt 0, rawInt 0, rawInt n, rawInt done, rawInt done, .bool must, .ref a, .bool false], []⟩) R s := by
  refine codeAny_builtin entry_loop ?_
  unfold Builtin.«re.Pattern.sub.loop»
  dsimp only [rawInt]
  refine wpAny_bind (whole_rule (hP.ext he) ?_)
  rw [if_pos (by rfl)]
  have e1 : reLiteralCannotBeTurned (.str rp u) = pure () := rfl
  rw [e1]
  refine wpAny_bind (wpAny_pure ?_)
  rw [if_neg (by simp)]
  refine wpAny_bind ?_
  unfold reNextFound
  dsimp only
  obtain ⟨hfound, hbe⟩ := hF done must hd
  refine end_of hfound (Nat.le_refl _) ?_
  have hdn : ((done : Int)).toNat = done := Int.toNat_natCast done
  rw [List.length_append] at hsz
  cases hnx : next done with
  | none =>
    rw [hnx] at hq
    obtain ⟨hrest, hq⟩ := hq
    rw [hrest] at hsz
    dsimp only
    rw [hdn]
    have fin : ∀ (l' : List (Str × Tok)) (ep' : Nat) (h' : Heap) (k : Nat), h'.get? a = some { cls := .type "list", data := .seq (strValues l').toArray ep' } → Ext hb h' → texts l' = texts l ++ x.cps.toList.drop done →
        wpAny (model prog w) (A.under (Code.builtin "re.Pattern.sub.loop" ⟨[.ref P, .str x t, .str rp u, .int 0 0, .int 0 0, .int n 0, .int done 0, .int done 0, .bool must, .ref a, .bool false], []⟩))
          (do
            let joiner ← reSlice x.cps 0 0 0
            let text ← if ((← seqItems? (.ref a)).getD #[]).isEmpty then pure joiner else call (.builtin (if (0 : Nat) == 0 then "str.join" else "bytes.join")) [joiner, .ref a]
            if false = true then ret (← holding [text] do newTuple [text, ← mkInt n]) else ret text)
          (fun fin s' => match fin with | .done f => R (.ok f) s' | .again c' => c'.quiet = true ∧ codeAny (model prog w) A c' R s')
          (fun e s' => R (.error e) s') { s with heap := h', toks := k } := by
      intro l' ep' h' k ho' he' ht'
      refine wpAny_bind (slice_rule ?_ hx)
      have hem : (⟨x.cps.extract 0 0⟩ : Str) = ⟨#[]⟩ := by simp
      rw [hem]
      refine wpAny_bind ?_
      refine wpAny_bind (wpAny_load ho' ?_)
      refine wpAny_pure ?_
      cases hl' : l' with
      | nil =>
        rw [if_pos (by rfl)]
        refine wpAny_bind (wpAny_pure ?_)
        dsimp only
        rw [if_neg Bool.false_ne_true]
        refine wpAny_pure ?_
        have h0 : texts l ++ x.cps.toList.drop done = [] := by rw [← ht', hl']; rfl
        have := hq h' k (k + 1) he'
        rw [h0] at this
        exact this
      | cons p r =>
        rw [if_neg (by simp [strValues])]
        have hjoin : (Txt.join ⟨#[]⟩ (l'.map (·.1))) = ⟨(texts l ++ x.cps.toList.drop done).toArray⟩ := by
          show Builtin.Str.glued ⟨#[]⟩ (l'.map (·.1)) = _
          rw [StrLaws.glued_eq_join]
          have := join_texts l'
          rw [ht'] at this
          rw [← this]
        rw [hl'] at hjoin ho' ht'
        refine wpAny_bind ?_
        refine SC.join (l := p :: r) ⟨_, ho', rfl, ep', rfl⟩ rfl ?_ ?_
        · unfold JoinOk
          rw [StrLaws.joinTotal, sum_texts, ht', List.length_append]
          have : Builtin.Str.tooLong ((texts l).length + (x.cps.toList.drop done).length + (List.map (·.1) (p :: r)).length * (⟨#[]⟩ : Str).length) = false := by
            show decide _ = false
            refine decide_eq_false ?_
            have : (⟨#[]⟩ : Str).length = 0 := rfl
            rw [this]
            omega
          rw [this]; rfl
        · intro t' k'
          rw [hjoin]
          dsimp only
          rw [if_neg Bool.false_ne_true]
          exact wpAny_pure (hq h' t' k' he')
    by_cases hlt : done < x.cps.size
    · rw [if_pos hlt]
      refine wpAny_bind (slice_rule ?_ hx)
      refine wpAny_bind (push_rule ho hn he (by omega) ?_)
      intro h' n' h1 h2
      refine fin _ _ _ _ h1 h2 ?_
      rw [texts_append]
      have : List.take (x.cps.size - done) (x.cps.toList.drop done) = x.cps.toList.drop done := List.take_of_length_le (by simp)
      simp [texts, this]
    · rw [if_neg hlt]
      refine fin _ _ _ _ ho he ?_
      have : x.cps.toList.drop done = [] := by
        apply List.drop_eq_nil_of_le
        simp; omega
      rw [this, List.append_nil]
  | some p =>
    obtain ⟨b, e⟩ := p
    obtain ⟨h1, h2, h3⟩ := hbe b e hnx
    rw [hnx] at hq
    obtain ⟨⟨r', hrest⟩, hq⟩ := hq
    rw [hrest] at hsz
    simp only [List.length_append] at hsz
    dsimp only
    intro m' hm1 hm2
    rw [hm1, hm2, hdn]
    have hrl : rp.cps.toList.length = rp.length := by simp [Str.length]
    have fin : ∀ (l' : List (Str × Tok)) (ep' : Nat) (h' : Heap) (k : Nat), h'.get? a = some { cls := .type "list", data := .seq (strValues l').toArray ep' } → Ext hb h' → texts l' = texts l ++ (x.cps.toList.drop done).take (b - done) → l'.length ≤ (texts l').length →
        wpAny (model prog w) (A.under (Code.builtin "re.Pattern.sub.loop" ⟨[.ref P, .str x t, .str rp u, .int 0 0, .int 0 0, .int n 0, .int done 0, .int done 0, .bool must, .ref a, .bool false], []⟩))
          (do
            let item ← pure (Value.str rp u)
            if (item != Value.none) = true then do
              updateSeq a fun x => x.push item
              again (Code.builtin "re.Pattern.sub.loop" ⟨[.ref P, .str x t, .str rp u, .int 0 0, .int 0 0, .int (n + 1) 0, .int e 0, .int e 0, .bool (e == b), .ref a, .bool false], []⟩)
            else again (Code.builtin "re.Pattern.sub.loop" ⟨[.ref P, .str x t, .str rp u, .int 0 0, .int 0 0, .int (n + 1) 0, .int e 0, .int e 0, .bool (e == b), .ref a, .bool false], []⟩))
          (fun fin s' => match fin with | .done f => R (.ok f) s' | .again c' => c'.quiet = true ∧ codeAny (model prog w) A c' R s')
          (fun e s' => R (.error e) s') { s with heap := h', toks := k } := by
      intro l' ep' h' k ho' he' ht' hl'
      refine wpAny_bind (wpAny_pure ?_)
      rw [if_pos (by rfl)]
      have hlen := congrArg List.length ht'
      rw [List.length_append] at hlen
      refine wpAny_bind (push_rule ho' hn he' (by omega) ?_)
      intro h'' n' h1' h2'
      refine wpAny_pure ⟨plainId_quiet (by decide +kernel) _, ?_⟩
      refine hq _ _ _ _ h1' h2' ?_ ?_
      · rw [texts_append, ht']
        simp [texts]
      · rw [texts_append, List.length_append, List.length_append]
        have : (texts [(rp, u)]).length = rp.length := by simp [texts, Str.length]
        rw [this, List.length_singleton]
        omega
    by_cases hlt : done < b
    · rw [if_pos hlt]
      refine wpAny_bind (slice_rule ?_ hx)
      refine wpAny_bind (push_rule ho hn he (by omega) ?_)
      intro h' n' h1' h2'
      rw [if_pos (by rfl)]
      have htx : texts (l ++ [((⟨x.cps.extract done b⟩ : Str), s.toks)]) = texts l ++ (x.cps.toList.drop done).take (b - done) := by
        rw [texts_append]
        simp [texts]
      refine fin _ _ _ _ h1' h2' htx ?_
      rw [htx, List.length_append, List.length_append, List.length_singleton, List.length_take, List.length_drop]
      have : x.cps.toList.length = x.cps.size := by simp
      omega
    · rw [if_neg hlt, if_pos (by rfl)]
      have hz : b - done = 0 := by omega
      refine fin _ _ _ _ ho he ?_ hll
      rw [hz]
      simp

theorem subLoop {code : Array Nat} {P : Addr} {x : Str} {t : Tok} {rp : Str} {u : Tok} {next : Nat → Option (Nat × Nat)} (hF : Finds code x.cps next) (hx : x.length ≤ sizeLine) (hrp : 0 < rp.length) {hb : Heap} {a : Addr} (hn : hb.get? a = none) (hP : PatAt hb P code) {R : Result → Shared → Prop} :
    ∀ (f done : Nat) (n : Int) (must : Bool) (l : List (Str × Tok)) (ep : Nat) (s : Shared), done ≤ x.cps.size → x.cps.size - done ≤ f →
      s.heap.get? a = some { cls := .type "list", data := .seq (strValues l).toArray ep } → Ext hb s.heap → l.length ≤ (texts l).length →
      (texts l ++ subAll x.cps.toList rp.cps.toList next f done).length ≤ sizeLine →
      (∀ (h' : Heap) (t' : Tok) (k : Nat), Ext hb h' → R (.ok (.ret (.str ⟨(texts l ++ subAll x.cps.toList rp.cps.toList next f done).toArray⟩ t'))) { s with heap := h', toks := k }) →
      codeAny (model prog w) A (.builtin "re.Pattern.sub.loop" ⟨[.ref P, .str x t, .str rp u, rawInt 0, rawInt 0, rawInt n, rawInt done, rawInt done, .bool must, .ref a, .bool false], []⟩) R s := by
  intro f
  induction f with
  | zero =>
    intro done n must l ep s hd hf ho he hll hsz hq
    refine subTurn hF hx hrp hn hP done n must l ep s _ hd ho he hll hsz ?_
    have hbe := (hF done must hd).2
    cases hnx : next done with
    | none => exact ⟨rfl, hq⟩
    | some p =>
      obtain ⟨h1, h2, h3⟩ := hbe p.1 p.2 hnx
      omega
  | succ f ih =>
    intro done n must l ep s hd hf ho he hll hsz hq
    refine subTurn hF hx hrp hn hP done n must l ep s _ hd ho he hll hsz ?_
    have hbe := (hF done must hd).2
    unfold subAll at hsz hq ⊢
    cases hnx : next done with
    | none =>
      rw [hnx] at hsz hq
      exact ⟨rfl, hq⟩
    | some p =>
      obtain ⟨b, e⟩ := p
      obtain ⟨h1, h2, h3⟩ := hbe b e hnx
      rw [hnx] at hsz hq
      dsimp only at hsz hq ⊢
      refine ⟨⟨_, rfl⟩, ?_⟩
      intro l' ep' h' k ho' he' ht' hl'
      have heq : texts l' ++ subAll x.cps.toList rp.cps.toList next f e = texts l ++ ((x.cps.toList.drop done).take (b - done) ++ rp.cps.toList ++ subAll x.cps.toList rp.cps.toList next f e) := by
        rw [ht']; simp
      refine ih e (n + 1) (e == b) l' ep' _ h3 (by omega) ho' he' hl' (by rw [heq]; exact hsz) ?_
      intro h'' t' k' hx'
      rw [heq]
      exact hq h'' t' k' hx'
end

theorem no_call_str : typeLookup (.type "str") "__call__" = pure none := by rw [typeLookup_type, builtinLookup_eq_fast]; kernel_rfl

section
variable {prog : Program} {w : World} {A : Around} {E : Value → Shared → Prop} {s : Shared}

/-- sub, whole: a pattern without groups, a replacement without a backslash -/
theorem sub_call {code : Array Nat} {P : Addr} {x : Str} {t : Tok} {rp : Str} {u : Tok} {next : Nat → Option (Nat × Nat)} {Q : Value → Shared → Prop} (hF : Finds code x.cps next) (hP : PatAt s.heap P code) (hx : x.length ≤ sizeLine) (hrp : 0 < rp.length)
    (hbs : rp.cps.contains 92 = false) (hsz : (subAll x.cps.toList rp.cps.toList next x.cps.size 0).length ≤ sizeLine)
    (hq : ∀ (h' : Heap) (t' : Tok) (k : Nat), Ext s.heap h' → Q (.str ⟨(subAll x.cps.toList rp.cps.toList next x.cps.size 0).toArray⟩ t') { s with heap := h', toks := k }) :
    wpAny (model prog w) A (call (.builtin "re.Pattern.sub") [.ref P, .str rp u, .str x t]) Q E s := by
  refine wpAny_call (codeAny_call_builtin slot_sub.plain entry_sub (slot_sub.check _ _ _ _ _ _ _ _ hP.typeIs (args_sub_3 _ _ _) ?_))
  unfold Builtin.«re.Pattern.sub» reSubstitute
  dsimp only
  have e1 : reNamed "re.Pattern.sub" "sub" ["repl", "string", "count"] 2 [.str rp u, .str x t] [] = pure [some (.str rp u), some (.str x t), none] := rfl
  rw [e1]
  refine wpAny_bind (wpAny_pure ?_)
  dsimp only
  refine wpAny_bind (wpAny_pure ?_)
  refine wpAny_bind (wpAny_specialOf (typeIs_str _ _ _) no_call_str ?_)
  rw [if_neg (by exact Bool.false_ne_true)]
  have e2 : asStr? (.str rp u) = pure (some rp) := rfl
  rw [e2]
  refine wpAny_bind (wpAny_pure ?_)
  refine wpAny_bind (wpAny_pure ?_)
  rw [if_neg (by exact Bool.false_ne_true), if_pos (by rw [hbs]; rfl)]
  refine wpAny_bind (wpAny_pure ?_)
  refine wpAny_bind (wpAny_holding (whole_rule hP ?_))
  rw [if_neg (by exact Bool.false_ne_true)]
  refine wpAny_bind (wpAny_newObj_type ?_ (by exact Nat.zero_le _))
  refine wpAny_pure ⟨plainId_quiet (by decide +kernel) _, ?_⟩
  have hnew : s.heap.get? s.heap.objs.size = none := by
    cases hq : s.heap.get? s.heap.objs.size with
    | none => rfl
    | some o => exact absurd (Heap.lt_size hq) (Nat.lt_irrefl _)
  refine subLoop (w := w) (hb := s.heap) hF hx hrp hnew hP x.cps.size 0 0 false [] 0 _ (Nat.zero_le _) (by omega) (Heap.get?_push_size _ rfl) (Ext.push _) (Nat.le_refl _) hsz ?_
  intro h' t' k he
  exact hq h' t' k he
end
end Mine
end
-- S
section
open PySem PySem.W PyProof.Rows
namespace Mine

/-- each line's end a return and a feed (b: a return stood just before) -/
def fixL : Bool → List Nat → List Nat
  | _, [] => []
  | b, c :: r => if c = 13 then 13 :: 10 :: fixL true r else if c = 10 then (if b then fixL false r else 13 :: 10 :: fixL false r) else c :: fixL false r
/-- a dot more at each line's begin that is a dot (b: a line's begin) -/
def quoteL : Bool → List Nat → List Nat
  | _, [] => []
  | b, c :: r => if (b && c == 46) = true then 46 :: 46 :: quoteL false r else c :: quoteL (c == 10) r

theorem fix_none : ∀ l : List Nat, scan2 l = none → fixL false l = l
  | [], _ => rfl
  | c :: r, h => by
    rw [scan2] at h
    by_cases h1 : c = 13
    · rw [if_pos h1] at h; cases h
    · rw [if_neg h1] at h
      by_cases h2 : c = 10
      · rw [if_pos h2] at h; cases h
      · rw [if_neg h2] at h
        rw [fixL, if_neg h1, if_neg h2]
        cases hs : scan2 r with
        | none => rw [fix_none r hs]
        | some p => rw [hs] at h; cases h
theorem fix_true : ∀ r : List Nat, r.head? ≠ some 10 → fixL true r = fixL false r
  | [], _ => rfl
  | c :: r, h => by
    have : c ≠ 10 := fun e => h (by rw [e]; rfl)
    rw [fixL, fixL]
    simp [this]
theorem fix_some : ∀ (l : List Nat) (g k : Nat), scan2 l = some (g, k) → fixL false l = l.take g ++ [13, 10] ++ fixL false (l.drop (g + k))
  | [], _, _, h => by cases h
  | c :: r, g, k, h => by
    rw [scan2] at h
    by_cases h1 : c = 13
    · rw [if_pos h1] at h
      cases h
      rw [fixL, if_pos h1]
      by_cases h10 : r.head? = some 10
      · rw [if_pos h10]
        cases r with
        | nil => cases h10
        | cons d r' =>
          cases h10
          rfl
      · rw [if_neg h10, fix_true r h10]
        rfl
    · rw [if_neg h1] at h
      by_cases h2 : c = 10
      · rw [if_pos h2] at h
        cases h
        rw [fixL, if_neg h1, if_pos h2]
        rfl
      · rw [if_neg h2] at h
        cases hs : scan2 r with
        | none => rw [hs] at h; cases h
        | some p =>
          rw [hs] at h
          cases h
          have ih := fix_some r p.1 p.2 hs
          have e : p.1 + 1 + p.2 = (p.1 + p.2) + 1 := by omega
          rw [fixL, if_neg h1, if_neg h2, ih, e]
          rfl
theorem quote_none : ∀ (b : Bool) (l : List Nat), scan1 b l = none → quoteL b l = l
  | _, [], _ => rfl
  | b, c :: r, h => by
    rw [scan1] at h
    split at h
    · cases h
    · rename_i hn
      rw [quoteL, if_neg hn]
      cases hs : scan1 (c == 10) r with
      | none => rw [quote_none _ r hs]
      | some p => rw [hs] at h; cases h
theorem quote_some : ∀ (b : Bool) (l : List Nat) (g : Nat), scan1 b l = some g → quoteL b l = l.take g ++ [46, 46] ++ quoteL false (l.drop (g + 1)) ∧ l[g]? = some 46
  | _, [], _, h => by cases h
  | b, c :: r, g, h => by
    rw [scan1] at h
    split at h
    · rename_i hp
      cases h
      rw [quoteL, if_pos hp]
      simp at hp
      exact ⟨rfl, by simp [hp.2]⟩
    · rename_i hn
      cases hs : scan1 (c == 10) r with
      | none => rw [hs] at h; cases h
      | some p =>
        rw [hs] at h
        cases h
        obtain ⟨ih, i2⟩ := quote_some _ r p hs
        rw [quoteL, if_neg hn, ih]
        exact ⟨rfl, by simpa using i2⟩
theorem scan1_lt : ∀ (b : Bool) (l : List Nat) (g : Nat), scan1 b l = some g → g < l.length := fun b l g h => by
  have := (quote_some b l g h).2
  exact (List.getElem?_eq_some_iff.mp this).1
theorem scan2_lt (l : List Nat) (g k : Nat) (h : scan2 l = some (g, k)) : 0 < k ∧ g + k ≤ l.length := by
  obtain ⟨c, r, h1, _, h3⟩ := scan2_at l g k h
  have hl := congrArg List.length h1
  rw [List.length_drop, List.length_cons] at hl
  split at h3
  · rename_i hh
    have : 0 < r.length := by
      cases r with
      | nil => cases hh.2
      | cons => simp
    omega
  · omega

abbrev next1 (t : Array Nat) (s : Nat) : Option (Nat × Nat) := (scan1 (s == 0 || t.getD (s - 1) 0 == 10) (t.toList.drop s)).map fun g => (s + g, s + g + 1)
abbrev next2 (t : Array Nat) (s : Nat) : Option (Nat × Nat) := (scan2 (t.toList.drop s)).map fun p => (s + p.1, s + p.1 + p.2)
theorem finds1 (t : Array Nat) (ht : t.size ≤ sizeLine) : Finds code1 t (next1 t) := fun s must hs => by
  refine ⟨le1 (search1 t s must hs) ?_, fun b e h => ?_⟩
  · have : sizeLine = 16777216 := by decide
    omega
  · unfold next1 at h
    cases hg : scan1 (s == 0 || t.getD (s - 1) 0 == 10) (t.toList.drop s) with
    | none => rw [hg] at h; cases h
    | some g =>
      rw [hg] at h
      cases h
      have := scan1_lt _ _ _ hg
      simp at this
      omega
theorem finds2 (t : Array Nat) : Finds code2 t (next2 t) := fun s must hs => by
  refine ⟨le1 (search2 t s must hs) (by omega), fun b e h => ?_⟩
  unfold next2 at h
  cases hg : scan2 (t.toList.drop s) with
  | none => rw [hg] at h; cases h
  | some g =>
    rw [hg] at h
    cases h
    have := scan2_lt _ g.1 g.2 hg
    simp at this
    omega
theorem sub2 (t : Array Nat) : ∀ f d, d ≤ t.size → t.size - d ≤ f → subAll t.toList [13, 10] (next2 t) f d = fixL false (t.toList.drop d) := by
  intro f
  induction f with
  | zero =>
    intro d hd hf
    have : d = t.size := by omega
    subst this
    have h0 : t.toList.drop t.size = [] := by simp
    rw [h0]
    exact h0
  | succ f ih =>
    intro d hd hf
    unfold subAll
    cases hg : scan2 (t.toList.drop d) with
    | none =>
      have : next2 t d = none := by unfold next2; rw [hg]; rfl
      rw [this, fix_none _ hg]
    | some p =>
      have : next2 t d = some (d + p.1, d + p.1 + p.2) := by unfold next2; rw [hg]; rfl
      rw [this, fix_some _ p.1 p.2 hg]
      have hlt := scan2_lt _ p.1 p.2 hg
      simp at hlt
      dsimp only
      rw [ih _ (by omega) (by omega), List.drop_drop, Nat.add_sub_cancel_left, Nat.add_assoc]
theorem sub1 (t : Array Nat) : ∀ f d, d ≤ t.size → t.size - d ≤ f → subAll t.toList [46, 46] (next1 t) f d = quoteL (d == 0 || t.getD (d - 1) 0 == 10) (t.toList.drop d) := by
  intro f
  induction f with
  | zero =>
    intro d hd hf
    have : d = t.size := by omega
    subst this
    have h0 : t.toList.drop t.size = [] := by simp
    rw [h0]
    exact h0
  | succ f ih =>
    intro d hd hf
    unfold subAll
    cases hg : scan1 (d == 0 || t.getD (d - 1) 0 == 10) (t.toList.drop d) with
    | none =>
      have : next1 t d = none := by unfold next1; rw [hg]; rfl
      rw [this, quote_none _ _ hg]
    | some g =>
      have : next1 t d = some (d + g, d + g + 1) := by unfold next1; rw [hg]; rfl
      obtain ⟨e1, e2⟩ := quote_some _ _ g hg
      rw [this, e1]
      have hlt := scan1_lt _ _ g hg
      simp at hlt
      have hb : (d + g + 1 == 0 || t.getD (d + g + 1 - 1) 0 == 10) = false := by
        rw [Nat.add_sub_cancel]
        simp at e2
        have hh : d + g < t.size := by omega
        simp [Array.getD, hh]
        have := Array.getElem?_eq_getElem hh
        rw [this] at e2
        have := Option.some.inj e2
        omega
      dsimp only
      rw [ih _ (by omega) (by omega), hb, List.drop_drop, Nat.add_sub_cancel_left, Nat.add_assoc]

/-- _fix_eols, quotedata: what they give back -/
def fixS (x : Str) : Str := ⟨(fixL false x.cps.toList).toArray⟩
def quoteS (x : Str) : Str := ⟨(quoteL true (fixL false x.cps.toList)).toArray⟩
theorem fix_length : ∀ (b : Bool) (l : List Nat), (fixL b l).length ≤ 2 * l.length
  | _, [] => Nat.zero_le _
  | b, c :: r => by
    have h1 := fix_length true r
    have h2 := fix_length false r
    rw [fixL]
    (repeat' split) <;> simp only [List.length_cons] <;> omega
theorem quote_length : ∀ (b : Bool) (l : List Nat), (quoteL b l).length ≤ 2 * l.length
  | _, [] => Nat.zero_le _
  | b, c :: r => by
    have h1 := quote_length false r
    have h2 := quote_length (c == 10) r
    rw [quoteL]
    (repeat' split) <;> simp only [List.length_cons] <;> omega

section
variable {prog : Program} {w : World} {A : Around} {E : Value → Shared → Prop} {s : Shared}
theorem sub2_call {P : Addr} {x : Str} {t u : Tok} {Q : Value → Shared → Prop} (hP : PatAt s.heap P code2) (hx : x.length ≤ 1000000)
    (hq : ∀ (h' : Heap) (t' : Tok) (k : Nat), Ext s.heap h' → Q (.str (fixS x) t') { s with heap := h', toks := k }) :
    wpAny (model prog w) A (call (.builtin "re.Pattern.sub") [.ref P, .str (Str.ofString "\r\n") u, .str x t]) Q E s := by
  have hr : (Str.ofString "\r\n").cps.toList = [13, 10] := by decide +kernel
  have he := sub2 x.cps x.cps.size 0 (Nat.zero_le _) (by omega)
  have hsl : sizeLine = 16777216 := by decide
  have hfl := fix_length false x.cps.toList
  have hxl : x.cps.toList.length = x.length := by simp [Str.length]
  refine sub_call (finds2 _) hP (by omega) (by decide +kernel) (by decide +kernel) ?_ ?_
  · rw [hr, he]
    simp only [List.drop_zero]
    omega
  · rw [hr, he]
    exact hq
theorem sub1_call {P : Addr} {x : Str} {t u : Tok} {Q : Value → Shared → Prop} (hP : PatAt s.heap P code1) (hx : x.length ≤ 2000000)
    (hq : ∀ (h' : Heap) (t' : Tok) (k : Nat), Ext s.heap h' → Q (.str ⟨(quoteL true x.cps.toList).toArray⟩ t') { s with heap := h', toks := k }) :
    wpAny (model prog w) A (call (.builtin "re.Pattern.sub") [.ref P, .str (Str.ofString "..") u, .str x t]) Q E s := by
  have hr : (Str.ofString "..").cps.toList = [46, 46] := by decide +kernel
  have he := sub1 x.cps x.cps.size 0 (Nat.zero_le _) (by omega)
  have hsl : sizeLine = 16777216 := by decide
  have hfl := quote_length true x.cps.toList
  have hxl : x.cps.toList.length = x.length := by simp [Str.length]
  refine sub_call (finds1 _ (by show x.length ≤ _; omega)) hP (by omega) (by decide +kernel) (by decide +kernel) ?_ ?_
  · rw [hr, he]
    simp only [List.drop_zero]
    show (quoteL true x.cps.toList).length ≤ _
    omega
  · rw [hr, he]
    exact hq
end
end Mine
end
-- C1
section
open PySem PySem.W PyProof.Rows
namespace Mine
local macro_rules | `(tactic| walk_at "no such key") => `(tactic| skip)
local macro_rules | `(tactic| walk_at "no such key") => `(tactic| skip)
local macro_rules | `(tactic| walk_at "no such key") => `(tactic| skip)
local macro_rules | `(tactic| walk_at "no such key") => `(tactic| skip)
local macro_rules | `(tactic| walk_at "no such key") => `(tactic| skip)
local macro_rules | `(tactic| walk_at "no such key") => `(tactic| skip)
local macro_rules | `(tactic| walk_at "no such key") => `(tactic| skip)
local macro_rules | `(tactic| walk_at "no such key") => `(tactic| skip)
local macro_rules | `(tactic| walk_at "no such key") => `(tactic| skip)
local macro_rules | `(tactic| walk_at "no such key") => `(tactic| skip)
local macro_rules | `(tactic| walk_at "no such key") => `(tactic| skip)
local macro_rules | `(tactic| walk_at "no such key") => `(tactic| skip)
local macro_rules | `(tactic| walk_at "no such key") => `(tactic| skip)
local macro_rules | `(tactic| walk_at "no such key") => `(tactic| skip)
local macro_rules | `(tactic| walk_at "no such key") => `(tactic| skip)
local macro_rules | `(tactic| walk_at "no such key") => `(tactic| skip)
local macro_rules | `(tactic| walk_at "no such key") => `(tactic| skip)
local macro_rules | `(tactic| walk_at "no such key") => `(tactic| skip)
local macro_rules | `(tactic| walk_at "no such key") => `(tactic| skip)
local macro_rules | `(tactic| walk_at "no such key") => `(tactic| skip)
local macro_rules | `(tactic| walk_at "no such key") => `(tactic| skip)
local macro_rules | `(tactic| walk_at "no such key") => `(tactic| skip)
local macro_rules | `(tactic| walk_at "no such key") => `(tactic| skip)
local macro_rules | `(tactic| walk_at "no such key") => `(tactic| skip)
local macro_rules | `(tactic| walk_at "no such key") => `(tactic| skip)
local macro_rules | `(tactic| walk_at "no such key") => `(tactic| skip)
local macro_rules | `(tactic| walk_at "no such key") => `(tactic| skip)
local macro_rules | `(tactic| walk_at "no such key") => `(tactic| skip)
local macro_rules | `(tactic| walk_at "no such key") => `(tactic| skip)
local macro_rules | `(tactic| walk_at "no such key") => `(tactic| skip)
theorem fresh_UnC1 : True := by (w_top off; k_with_none; trivial)
theorem fillU : (fun (_ : OpenLaw) (_ : Params → Frag) => True) PySem.Challenge.rw_un0006_01 hd.heap_39 := by (k_fill; trivial)
abbrev TopU (mean : ExcName → Option Value) (mg mb : Str → Option Value) (h : Heap) : Prop :=
  Top hd.view_39 (looseW hd.view_39 [Str.ofString "_twin_re_1", Str.ofString "_twin_re_2", Str.ofString "_filemode_table"]) mean mg mb h

theorem Fr.ext {h₀ h h' : Heap} {L : Addr} {m : Str → Option Value} (F : Fr h₀ L h m) (e : Ext h h') : Fr h₀ L h' m := by
  obtain ⟨oL, a1, a2, hL, a3⟩ := F.ns
  exact ⟨⟨oL, a1, a2, e _ _ hL, a3⟩, fun b o x => e _ _ (F.keep b o x), F.above⟩
theorem News.ext {h₀ h h' : Heap} {L : Addr} {news : List (Addr × Obj)} (N : News h₀ L h news) (e : Ext h h') : News h₀ L h' news :=
  fun p hp => ⟨e _ _ (N p hp).1, (N p hp).2.1, (N p hp).2.2⟩
theorem pat1_of {w : World} {h : Heap} (X : (hd.heap_39 w.params).In h) : PatAt h 36 code1 :=
  ⟨_, _, 35, _, _, _, X 36 _ rfl, rfl, rfl, rfl, rfl, rfl, rfl, X 35 _ rfl, rfl, by decide +kernel⟩
theorem pat2_of {w : World} {h : Heap} (X : (hd.heap_39 w.params).In h) : PatAt h 41 code2 :=
  ⟨_, _, 40, _, _, _, X 41 _ rfl, rfl, rfl, rfl, rfl, rfl, rfl, X 40 _ rfl, rfl, by decide +kernel⟩
theorem plainAttrs_pat : PlainAttrs "re.Pattern" :=
  ⟨⟨"object.__getattribute__", by rw [typeLookup_type, builtinLookup_eq_fast]; kernel_rfl, by decide +kernel⟩, by rw [typeLookup_type, builtinLookup_eq_fast]; kernel_rfl⟩
theorem getSub {M : Model} {A : Around} {E : Value → Shared → Prop} {s : Shared} {P : Addr} {code : Array Nat} {pl : Sem Bool} {Q : Value × List Value → Shared → Prop} (hP : PatAt s.heap P code) (h : Q (.builtin "re.Pattern.sub", [.ref P]) s) :
    wpAny M A (getMethod (.ref P) (Str.ofString "sub") pl) Q E s := by
  refine getMethod_builtin hP.typeIs plainAttrs_pat slot_sub type_sub ?_ h
  intro a e
  cases e
  obtain ⟨oP, fs, Pt, oT, vs, n, a, b, b', _⟩ := hP
  exact ⟨oP, a, b'⟩
theorem fixS_len (x : Str) : (fixS x).length ≤ 2 * x.length := by
  have := fix_length false x.cps.toList
  show (fixL false x.cps.toList).toArray.size ≤ 2 * x.cps.size
  simpa using this
section
variable {prog : Program} {w : World} {A : Around} {E : Value → Shared → Prop} {s : Shared} {h₀ : Heap} {L : Addr} {m : Str → Option Value} {news : List (Addr × Obj)} {Q : Value → Shared → Prop}
theorem sub2_K {x : Str} {t u : Tok} (F : Fr h₀ L s.heap m) (N : News h₀ L s.heap news) (X : (hd.heap_39 w.params).In h₀) (hx : x.length ≤ 1000000)
    (hq : ∀ (h' : Heap) (t' : Tok) (k : Nat), Fr h₀ L h' m → News h₀ L h' news → Q (.str (fixS x) t') { s with heap := h', toks := k }) :
    wpAny (model prog w) A (call (.builtin "re.Pattern.sub") [.ref 41, .str (Str.ofString "\r\n") u, .str x t]) Q E s :=
  sub2_call ((pat2_of X).ext F.keep) hx fun h' t' k e => hq h' t' k (Fr.ext F e) (News.ext N e)
theorem sub1_K {x : Str} {t u : Tok} (F : Fr h₀ L s.heap m) (N : News h₀ L s.heap news) (X : (hd.heap_39 w.params).In h₀) (hx : x.length ≤ 2000000)
    (hq : ∀ (h' : Heap) (t' : Tok) (k : Nat), Fr h₀ L h' m → News h₀ L h' news → Q (.str ⟨(quoteL true x.cps.toList).toArray⟩ t') { s with heap := h', toks := k }) :
    wpAny (model prog w) A (call (.builtin "re.Pattern.sub") [.ref 36, .str (Str.ofString "..") u, .str x t]) Q E s :=
  sub1_call ((pat1_of X).ext F.keep) hx fun h' t' k e => hq h' t' k (Fr.ext F e) (News.ext N e)
end
local macro_rules | `(tactic| walk_at "getMethod ref") => `(tactic| (k_here; (with_reducible show wpAny _ _ (getMethod (Value.ref _) (PySem.Str.ofString "sub") _) _ _ _); first
  | (refine getSub (P := 36) (PatAt.ext (pat1_of (by k_asm)) (Fr.keep (by k_asm))) ?_)
  | (refine getSub (P := 41) (PatAt.ext (pat2_of (by k_asm)) (Fr.keep (by k_asm))) ?_)))
local macro_rules | `(tactic| walk_at "call builtin:re.Pattern.sub") => `(tactic| (k_here; first
  | (refine' sub2_K ?k1 ?k2 ?k3 ?k4 ?_; (case k1 => k_asm); (case k2 => k_asm); (case k3 => k_asm); (case k4 => assumption); k_whole; intro h' t' k' F' N'; (try dsimp only))
  | (refine' sub1_K ?k1 ?k2 ?k3 ?k4 ?_; (case k1 => k_asm); (case k2 => k_asm); (case k3 => k_asm); (case k4 => first | assumption | exact Nat.le_trans (fixS_len _) (by omega)); k_whole; intro h' t' k' F' N'; (try dsimp only))))

theorem fix_call {prog : Program} {w : World} {mean : ExcName → Option Value} {mg mb : Str → Option Value} {dp un : Nat} {gd : Option (List Code)} {cn : Str} {cs : Scope} {a : Addr} {ccd : Value} {cl : List (Str × Addr)} {outer : List Env} {A₀ : Around} {base h₀ : Heap} {L : Addr} {m : Str → Option Value} {news : List (Addr × Obj)} {s : Shared} {Q E : Value → Shared → Prop} {x : Str} {t : Tok}
    (B : Below A₀ base outer h₀) (F : Fr h₀ L s.heap m) (X : (hd.heap_39 w.params).In h₀) (N : News h₀ L s.heap news) (T : TopU mean mg mb h₀) (hk : cs.kind = .function) (hd : dp + 1 < recursionLimit) (hu : un + 8 < cLine) (hx : x.length ≤ 1000000)
    (hret : ∀ (t' : Tok) (h' : Heap) (tk' : Nat), Fr h₀ L h' m → News h₀ L h' news → Q (.str (fixS x) t') { s with heap := h', toks := tk' }) :
    wpAny (model prog w) (ktrTop dp un gd cn cs L a ccd cl outer) (call (.ref 55) [.str x t]) Q E s := by
  refine wpAny_call ?_
  k_dflt cell_enter
  k_steps
  all_goals exact hret _ _ _ (by k_asm) (by k_asm)
theorem quote_call {prog : Program} {w : World} {mean : ExcName → Option Value} {mg mb : Str → Option Value} {dp un : Nat} {gd : Option (List Code)} {cn : Str} {cs : Scope} {a : Addr} {ccd : Value} {cl : List (Str × Addr)} {outer : List Env} {A₀ : Around} {base h₀ : Heap} {L : Addr} {m : Str → Option Value} {news : List (Addr × Obj)} {s : Shared} {Q E : Value → Shared → Prop} {x : Str} {t : Tok}
    (B : Below A₀ base outer h₀) (F : Fr h₀ L s.heap m) (X : (hd.heap_39 w.params).In h₀) (N : News h₀ L s.heap news) (T : TopU mean mg mb h₀) (hk : cs.kind = .function) (hd : dp + 1 < recursionLimit) (hu : un + 8 < cLine) (hx : x.length ≤ 1000000)
    (hret : ∀ (t' : Tok) (h' : Heap) (tk' : Nat), Fr h₀ L h' m → News h₀ L h' news → Q (.str (quoteS x) t') { s with heap := h', toks := tk' }) :
    wpAny (model prog w) (ktrTop dp un gd cn cs L a ccd cl outer) (call (.ref 48) [.str x t]) Q E s := by
  refine wpAny_call ?_
  k_dflt cell_enter
  k_steps
  all_goals exact hret _ _ _ (by k_asm) (by k_asm)
end Mine
end
-- C2
section
open PySem PySem.W PyProof.Rows
namespace Mine
theorem fresh_UnC2 : True := by (w_top off; k_with_none; trivial)
theorem fillU2 : (fun (_ : OpenLaw) (_ : Params → Frag) => True) PySem.Challenge.rw_un0006_01 hd.heap_39 := by (k_fill; trivial)

def pairL : List Int → Int × Int := fun l => l.foldl (fun p c => if c = 45 then (if 0 < p.2 then (p.1, p.2 - 1) else (p.1 + 1, p.2)) else (p.1, p.2 + 1)) (0, 0)

theorem dash_iff (n : Nat) : ((Str.mk #[n]) == Str.ofString "-") = decide ((n : Int) = 45) := by
  have e : Str.ofString "-" = ⟨#[45]⟩ := by decide +kernel
  rw [e]
  by_cases h : n = 45
  · subst h; rfl
  · have h1 : ¬ ((n : Int) = 45) := by omega
    rw [decide_eq_false h1]
    rw [beq_eq_false_iff_ne]
    intro h2
    injection h2 with h2
    injection h2 with h2
    injection h2 with h2
    exact h h2
theorem pairL_snoc (pre : List Int) (c : Int) : pairL (pre ++ [c]) = if c = 45 then (if 0 < (pairL pre).2 then ((pairL pre).1, (pairL pre).2 - 1) else ((pairL pre).1 + 1, (pairL pre).2)) else ((pairL pre).1, (pairL pre).2 + 1) := by
  unfold pairL
  rw [List.foldl_append]
  rfl
abbrev PairOk (pre : List Int) (l r : Int) : Prop := 0 ≤ l ∧ 0 ≤ r ∧ l ≤ pre.length ∧ r ≤ pre.length ∧ (l, r) = pairL pre
theorem pt_letter {pre : List Int} {l r : Int} {n : Nat} (h1 : 0 ≤ l) (h2 : 0 ≤ r) (h3 : l ≤ pre.length) (h4 : r ≤ pre.length) (h : (l, r) = pairL pre) (hn : (Str.mk #[n] != Str.ofString "-") = true) : PairOk (pre ++ [(n : Int)]) l (r + 1) := by
  unfold bne at hn
  rw [dash_iff] at hn
  have hn' : ¬ ((n : Int) = 45) := by simpa using hn
  refine ⟨h1, by omega, ?_, ?_, ?_⟩
  · rw [List.length_append, List.length_singleton]; omega
  · rw [List.length_append, List.length_singleton]; omega
  · rw [pairL_snoc, if_neg hn', ← h]
theorem pt_dash {pre : List Int} {l r : Int} {n : Nat} (h1 : 0 ≤ l) (h2 : 0 ≤ r) (h3 : l ≤ pre.length) (h4 : r ≤ pre.length) (h : (l, r) = pairL pre) (hn : (Str.mk #[n] != Str.ofString "-") = false) (hr : 0 < r) : PairOk (pre ++ [(n : Int)]) l (r - 1) := by
  unfold bne at hn
  rw [dash_iff] at hn
  have hn' : ((n : Int) = 45) := by simpa using hn
  refine ⟨h1, by omega, ?_, ?_, ?_⟩
  · rw [List.length_append, List.length_singleton]; omega
  · rw [List.length_append, List.length_singleton]; omega
  · rw [pairL_snoc, if_pos hn', ← h, if_pos hr]
theorem pt_last {pre : List Int} {l r : Int} {n : Nat} (h1 : 0 ≤ l) (h2 : 0 ≤ r) (h3 : l ≤ pre.length) (h4 : r ≤ pre.length) (h : (l, r) = pairL pre) (hn : (Str.mk #[n] != Str.ofString "-") = false) (hr : ¬ 0 < r) : PairOk (pre ++ [(n : Int)]) (l + 1) r := by
  unfold bne at hn
  rw [dash_iff] at hn
  have hn' : ((n : Int) = 45) := by simpa using hn
  refine ⟨by omega, h2, ?_, ?_, ?_⟩
  · rw [List.length_append, List.length_singleton]; omega
  · rw [List.length_append, List.length_singleton]; omega
  · rw [pairL_snoc, if_pos hn', ← h, if_neg hr]
abbrev pairObj (l r : Int) (t1 t2 : Tok) : Obj := { cls := .type "tuple", data := .seq #[.int l t1, .int r t2] }
theorem pair_end {h₀ h' : Heap} {L : Addr} {m : Str → Option Value} {news : List (Addr × Obj)} {s : Shared} {Q : Value → Shared → Prop} {pl : Int × Int} {l r : Int} {t1 t2 : Tok} {p : Addr} {tk' : Nat}
    (hret : ∀ (p : Addr) (t1 t2 : Tok) (h' : Heap) (tk' : Nat), Fr h₀ L h' m → News h₀ L h' ((p, pairObj pl.1 pl.2 t1 t2) :: news) → Q (.ref p) { s with heap := h', toks := tk' })
    (hp : (l, r) = pl) (F : Fr h₀ L h' m) (N : News h₀ L h' ((p, pairObj l r t1 t2) :: news)) : Q (.ref p) { s with heap := h', toks := tk' } := by
  subst hp
  exact hret _ _ _ _ _ F N

theorem pair_call {prog : Program} {w : World} {mean : ExcName → Option Value} {mg mb : Str → Option Value} {dp un : Nat} {gd : Option (List Code)} {cn : Str} {cs : Scope} {a : Addr} {ccd : Value} {cl : List (Str × Addr)} {outer : List Env} {A₀ : Around} {base h₀ : Heap} {L : Addr} {m : Str → Option Value} {news : List (Addr × Obj)} {s : Shared} {Q E : Value → Shared → Prop} {x : Str} {t : Tok}
    (B : Below A₀ base outer h₀) (F : Fr h₀ L s.heap m) (X : (hd.heap_39 w.params).In h₀) (N : News h₀ L s.heap news) (T : TopU mean mg mb h₀) (hk : cs.kind = .function) (hd : dp + 1 < recursionLimit) (hu : un + 8 < cLine) (hx : x.length ≤ 1000)
    (hret : ∀ (p : Addr) (t1 t2 : Tok) (h' : Heap) (tk' : Nat), Fr h₀ L h' m → News h₀ L h' ((p, pairObj (pairL (KStt.codes x)).1 (pairL (KStt.codes x)).2 t1 t2) :: news) → Q (.ref p) { s with heap := h', toks := tk' }) :
    wpAny (model prog w) (ktrTop dp un gd cn cs L a ccd cl outer) (call (.ref 131) [.str x t]) Q E s := by
  refine wpAny_call ?_
  k_dflt cell_enter
  k_with "pyIter str" => k_state (fun pre l r => PairOk pre l r) "lost" "rest"
  k_with "state" => first
    | exact ⟨by decide, by decide, by decide, by decide, rfl⟩
    | exact pt_letter (by assumption) (by assumption) (by assumption) (by assumption) (by assumption) (by assumption)
    | exact pt_dash (by assumption) (by assumption) (by assumption) (by assumption) (by assumption) (by assumption) (by assumption)
    | exact pt_last (by assumption) (by assumption) (by assumption) (by assumption) (by assumption) (by assumption) (by assumption)
  k_steps
  all_goals exact pair_end hret (by assumption) (by k_asm) (by k_asm)
end Mine
end
-- C3
section
open PySem PySem.W PyProof.Rows
namespace Mine
local macro_rules | `(tactic| walk_at "no such key") => `(tactic| skip)
local macro_rules | `(tactic| walk_at "no such key") => `(tactic| skip)
local macro_rules | `(tactic| walk_at "no such key") => `(tactic| skip)
local macro_rules | `(tactic| walk_at "no such key") => `(tactic| skip)
local macro_rules | `(tactic| walk_at "no such key") => `(tactic| skip)
local macro_rules | `(tactic| walk_at "no such key") => `(tactic| skip)
local macro_rules | `(tactic| walk_at "no such key") => `(tactic| skip)
local macro_rules | `(tactic| walk_at "no such key") => `(tactic| skip)
local macro_rules | `(tactic| walk_at "no such key") => `(tactic| skip)
local macro_rules | `(tactic| walk_at "no such key") => `(tactic| skip)
local macro_rules | `(tactic| walk_at "no such key") => `(tactic| skip)
local macro_rules | `(tactic| walk_at "no such key") => `(tactic| skip)
local macro_rules | `(tactic| walk_at "no such key") => `(tactic| skip)
local macro_rules | `(tactic| walk_at "no such key") => `(tactic| skip)
local macro_rules | `(tactic| walk_at "no such key") => `(tactic| skip)
local macro_rules | `(tactic| walk_at "no such key") => `(tactic| skip)
local macro_rules | `(tactic| walk_at "no such key") => `(tactic| skip)
local macro_rules | `(tactic| walk_at "no such key") => `(tactic| skip)
local macro_rules | `(tactic| walk_at "no such key") => `(tactic| skip)
local macro_rules | `(tactic| walk_at "no such key") => `(tactic| skip)
local macro_rules | `(tactic| walk_at "no such key") => `(tactic| skip)
local macro_rules | `(tactic| walk_at "no such key") => `(tactic| skip)
local macro_rules | `(tactic| walk_at "no such key") => `(tactic| skip)
local macro_rules | `(tactic| walk_at "no such key") => `(tactic| skip)
local macro_rules | `(tactic| walk_at "no such key") => `(tactic| skip)
local macro_rules | `(tactic| walk_at "no such key") => `(tactic| skip)
local macro_rules | `(tactic| walk_at "no such key") => `(tactic| skip)
local macro_rules | `(tactic| walk_at "no such key") => `(tactic| skip)
local macro_rules | `(tactic| walk_at "no such key") => `(tactic| skip)
local macro_rules | `(tactic| walk_at "no such key") => `(tactic| skip)
theorem fresh_UnC3 : True := by (w_top off; k_with_none; trivial)
theorem fillU3 : (fun (_ : OpenLaw) (_ : Params → Frag) => True) PySem.Challenge.rw_un0006_01 hd.heap_39 := by (k_fill; trivial)

section
variable {prog : Program} {w : World} {A : Around} {E : Value → Shared → Prop} {s : Shared} {x : Str} {t : Tok} {Q : Value → Shared → Prop}
open Builtin Builtin.Str
/-- split at a separator: a new list of texts -/
theorem split_rule {y : Str} {u : Tok} (hy : (y.length == 0) = false)
    (hq : ∀ (l : List (Str × Tok)) k, l.map (·.1) = Txt.split x y → Q (.ref s.heap.objs.size) { s with heap := s.heap.push { cls := .type "list", data := .seq (strValues l).toArray }, toks := k })
    (hsz : x.length ≤ sizeLine) (hsz2 : (partsBetween x (occurrences x y 0 x.length (x.length + 1)) y.length).length ≤ sizeLine) :
    wpAny (model prog w) A (call (.builtin "str.split") [.str x t, .str y u]) Q E s := by
  cases h1 : (decide (x.length < y.length) || decide (strKind x < strKind y))
  · cases hf : (occurrences x y 0 x.length (x.length + 1)).isEmpty
    · refine call_meets PySem.F.slot_str_split (typeIs_str _ _ _) PySem.F.entry_str_split (PySem.F.args_str_split_2 _ _) (meets_str_split_sep x y t u h1 hy hf hsz hsz2) ?_
      show wants Q E _ { s with toks := _, heap := s.heap.push { cls := .type "list", data := .seq (strsFrom s.toks (partsBetween x (occurrences x y 0 x.length (x.length + 1)) y.length)).toArray } }
      rw [strsFrom_eq]
      exact hq (numbered s.toks _) _ ((numbered_texts _ _).trans ((if_neg (ne_true_of_eq_false h1)).trans (if_neg (ne_true_of_eq_false hf))).symm)
    · exact call_meets PySem.F.slot_str_split (typeIs_str _ _ _) PySem.F.entry_str_split (PySem.F.args_str_split_2 _ _) (meets_str_split_not_found x y t u h1 hy hf)
        (hq [(x, t)] _ ((if_neg (ne_true_of_eq_false h1)).trans (if_pos hf)).symm)
  · exact call_meets PySem.F.slot_str_split (typeIs_str _ _ _) PySem.F.entry_str_split (PySem.F.args_str_split_2 _ _) (meets_str_split_cannot_occur x y t u h1)
      (hq [(x, t)] _ (if_pos h1).symm)
end

/-- each item with its image -/
inductive All2 (G : Value → Value → Prop) : List Value → List Value → Prop where
  | nil : All2 G [] []
  | cons {v y : Value} {vs ys : List Value} : G v y → All2 G vs ys → All2 G (v :: vs) (y :: ys)
theorem All2.snoc {G : Value → Value → Prop} {v y : Value} : ∀ {vs ys : List Value}, All2 G vs ys → G v y → All2 G (vs ++ [v]) (ys ++ [y])
  | _, _, .nil, h => .cons h .nil
  | _, _, .cons g r, h => .cons g (r.snoc h)
theorem All2.length {G : Value → Value → Prop} : ∀ {vs ys : List Value}, All2 G vs ys → ys.length = vs.length
  | _, _, .nil => rfl
  | _, _, .cons _ r => by rw [List.length_cons, List.length_cons, r.length]

section
variable {prog : Program} {w : World} {A : Around} {h₀ : Heap} {L : Addr} {m : Str → Option Value} {env : Env} {elt : Expr} {x : Str} {scope : Scope} {cl : List (Str × Addr)} {s : Shared} {S : List (Addr × Obj) → Prop} {P : Nat → Value → Prop} {Fin : List Value → List (Addr × Obj) → Prop} {news : List (Addr × Obj)}
/-- a comprehension, item by item -/
theorem comp_rest {vs : List Value} (G : Value → Value → Prop) (hP : ∀ i v, P i v → ∃ v', vs[i]? = some v' ∧ ∀ y, G v y → G v' y)
    (turn : ∀ v I oI C oC D m₂ ys h tk (E' : Value → Shared → Prop), (∃ i, P i v) → LCg.NsObj oC m₂ → m₂ x = some v → Fr h₀ L h m → News h₀ L h ((I, oI) :: (C, oC) :: (D, LCg.lst ys) :: news) → LCg.Off3 I C D news → ((@Ne Nat I C) ∧ (@Ne Nat I D) ∧ (@Ne Nat C D)) →
      wpAny (model prog w) A (eval elt (compEnvC scope cl C env)) (LCg.CompEnd h₀ L m { s with heap := h, toks := tk } I oI C oC D (LCg.lst ys) S (fun y news' => news' = news ∧ G v y)) E' { s with heap := h, toks := tk })
    (fin : ∀ ys, All2 G vs ys → Fin ys news) : LCg.CompRest prog w A h₀ L m env elt x scope cl s S P Fin vs.length 0 [] news := by
  have key : ∀ (j i : Nat) (ys : List Value), i + j = vs.length → All2 G (vs.take i) ys → LCg.CompRest prog w A h₀ L m env elt x scope cl s S P Fin j i ys news := by
    intro j
    induction j with
    | zero =>
      intro i ys hi hy
      have e : i = vs.length := by omega
      subst e
      rw [List.take_length] at hy
      exact LCg.CompRest.zero (fin ys hy)
    | succ j ih =>
      intro i ys hi hy
      refine LCg.CompRest.succ ?_
      intro v I oI C oC D m₂ h tk E' hv hC hx F N off ne
      obtain ⟨v', hv', hG⟩ := hP i v hv
      refine wpAny_mono (turn v I oI C oC D m₂ ys h tk E' ⟨i, hv⟩ hC hx F N off ne) (fun y s₂ hq => ?_) fun _ _ e => e
      obtain ⟨h', tk', nw, e, F', N', off', hS, hn, hy'⟩ := hq
      rw [hn] at N' off' hS
      refine ⟨h', tk', news, e, F', N', off', hS, ?_⟩
      refine ih (i + 1) _ (by omega) ?_
      rw [List.take_add_one, hv']
      exact hy.snoc (hG _ hy')
  exact key vs.length 0 [] (by omega) (by simpa using All2.nil)
end

def TEnd (h₀ : Heap) (L : Addr) (m : Str → Option Value) (s : Shared) (z : Str) (news : List (Addr × Obj)) (y : Value) (s₂ : Shared) : Prop :=
  ∃ (h' : Heap) (tk' : Nat) (t' : Tok), y = .str z t' ∧ s₂ = { s with heap := h', toks := tk' } ∧ Fr h₀ L h' m ∧ News h₀ L h' news
theorem str_item {l : List (Str × Tok)} {v : Value} {i : Nat} (h : (strValues l)[i]? = some v) : ∃ r t, v = .str r t ∧ r ∈ l.map (·.1) := by
  have := List.mem_of_getElem? h
  obtain ⟨p, hp, rfl⟩ := List.mem_map.mp this
  exact ⟨p.1, p.2, rfl, List.mem_map.mpr ⟨p, hp, rfl⟩⟩
theorem strs_all2 {f : Str → Str} : ∀ {l : List (Str × Tok)} {ys : List Value}, All2 (fun v y => ∀ r t, v = .str r t → ∃ t', y = .str (f r) t') (strValues l) ys → ∃ l', ys = strValues l' ∧ l'.map (·.1) = (l.map (·.1)).map f
  | [], _, .nil => ⟨[], rfl, rfl⟩
  | p :: l, _, .cons (ys := ys) g r => by
    obtain ⟨t', e⟩ := g p.1 p.2 rfl
    obtain ⟨l', e', h⟩ := strs_all2 (l := l) r
    subst e e'
    exact ⟨(f p.1, t') :: l', rfl, by simp [h]⟩
/-- a comprehension over a list of texts, one text a turn -/
theorem compStrs {prog : Program} {w : World} {A : Around} {h₀ : Heap} {L : Addr} {m : Str → Option Value} {env : Env} {elt : Expr} {x : Str} {scope : Scope} {cl : List (Str × Addr)} {s : Shared} {news : List (Addr × Obj)} {Q : Value → Shared → Prop} {ax : Addr} {l : List (Str × Tok)} {k : Nat} (f : Str → Str)
    (hh : A.handled = none) (F : Fr h₀ L s.heap m) (N : News h₀ L s.heap news) (hm : (ax, ({ cls := .type "list", data := .seq (strValues l).toArray k } : Obj)) ∈ news) (hl : l.length ≤ sizeLine)
    (turn : ∀ (r : Str) (t : Tok) I oI C oC D m₂ ys h tk (E' : Value → Shared → Prop), r ∈ l.map (·.1) → LCg.NsObj oC m₂ → m₂ x = some (.str r t) → Fr h₀ L h m → News h₀ L h ((I, oI) :: (C, oC) :: (D, LCg.lst ys) :: news) →
      wpAny (model prog w) A (eval elt (compEnvC scope cl C env)) (TEnd h₀ L m s (f r) ((I, oI) :: (C, oC) :: (D, LCg.lst ys) :: news)) E' { s with heap := h, toks := tk })
    (fin : ∀ (l' : List (Str × Tok)) D h tk, l'.map (·.1) = (l.map (·.1)).map f → Fr h₀ L h m → News h₀ L h ((D, LCg.lst (strValues l')) :: news) → Q (.ref D) { s with heap := h, toks := tk }) :
    LCg.CompSrc prog w A h₀ L m env elt x scope cl (fun s₂ => LCg.FinE h₀ L m s₂ Q) (.ref ax) s := by
  have hsz : (strValues l).toArray.size = (strValues l).length := by simp
  refine LCg.CompSrc.ledger hh F N hm (by rw [hsz]; simpa [strValues] using hl) ?_
  intro g
  rw [hsz]
  refine comp_rest (vs := strValues l) (fun v y => ∀ r t, v = .str r t → ∃ t', y = .str (f r) t') (fun i v hv => ⟨v, by simpa using hv, fun _ h => h⟩) ?_ ?_
  · intro v I oI C oC D m₂ ys h tk E' hv hC hx F' N' off ne
    obtain ⟨i, hi⟩ := hv
    obtain ⟨r, t, rfl, hr⟩ := str_item (l := l) (by simpa using hi)
    refine wpAny_mono (turn r t I oI C oC D m₂ ys h tk E' hr hC hx F' N') (fun y s₂ hq => ?_) fun _ _ e => e
    obtain ⟨h', tk', t', rfl, rfl, F'', N''⟩ := hq
    refine LCg.CompEnd.intro F'' N'' news (fun p hp => hp) off (.inr ⟨_, hm, rfl, _, rfl⟩) ⟨rfl, ?_⟩
    intro r' t'' e
    cases e
    exact ⟨t', rfl⟩
  · intro ys hy D h tk F' N' _
    obtain ⟨l', rfl, hl'⟩ := strs_all2 hy
    exact fin l' D h tk hl' F' N'

/-- one dot off -/
def bareS (r : Str) : Str := if (Txt.slice r none (some 1) == Str.ofString ".") = true then Txt.slice r (some 1) none else r
def unquoteS (m : Str) : Str := Txt.join (Str.ofString "\r\n") ((Txt.split m (Str.ofString "\r\n")).map bareS)
theorem strSub_len (x : Str) (i j : Nat) : (Builtin.Str.strSub x i j).length ≤ x.length := by
  show (x.cps.extract i j).size ≤ x.cps.size
  rw [Array.size_extract]
  omega
theorem slice_len (x : Str) (a b : Option Int) : (Txt.slice x a b).length ≤ x.length := PyProof.Txt.length_slice_le x a b
theorem bareS_len (r : Str) : (bareS r).length ≤ r.length := by
  unfold bareS
  split
  · exact slice_len _ _ _
  · exact Nat.le_refl _
theorem split_len {x y p : Str} (h : p ∈ Txt.split x y) : p.length ≤ x.length := by
  unfold Txt.split at h
  split at h
  · simp at h; subst h; exact Nat.le_refl _
  · split at h
    · simp at h; subst h; exact Nat.le_refl _
    · unfold Builtin.Str.partsBetween at h
      obtain ⟨q, _, rfl⟩ := List.mem_map.mp h
      exact strSub_len _ _ _
theorem join_sum (sep : Str) : ∀ ts : List Str, (ts.map (·.length)).sum ≤ (Str.join sep ts).length
  | [] => Nat.zero_le _
  | [x] => by simp [Str.join]
  | x :: y :: r => by
    have ih := join_sum sep (y :: r)
    show _ ≤ (x ++ sep ++ Str.join sep (y :: r)).length
    rw [Str.length_append, Str.length_append]
    simp only [List.map_cons, List.sum_cons] at ih ⊢
    omega
theorem split_count (x y : Str) : (Txt.split x y).length ≤ x.length + 2 := by
  unfold Txt.split
  split
  · simp
  · split
    · simp
    · have h1 := PyProof.Rows.len_partsBetween x (Builtin.Str.occurrences x y 0 x.length (x.length + 1)) y.length
      have h2 := StrLaws.occ_length_le x y 0 x.length (x.length + 1)
      omega
theorem bare_sum : ∀ ts : List Str, ((ts.map bareS).map (·.length)).sum ≤ (ts.map (·.length)).sum
  | [] => Nat.le_refl _
  | x :: r => by
    have ih := bare_sum r
    have := bareS_len x
    simp only [List.map_cons, List.sum_cons] at ih ⊢
    omega
theorem joinOk_bare {x : Str} (hx : x.length ≤ 1000000) : JoinOk (Str.ofString "\r\n") ((Txt.split x (Str.ofString "\r\n")).map bareS) = true := by
  have h1 := bare_sum (Txt.split x (Str.ofString "\r\n"))
  have h2 := join_sum (Str.ofString "\r\n") (Txt.split x (Str.ofString "\r\n"))
  rw [StrLaws.join_split] at h2
  have h3 := split_count x (Str.ofString "\r\n")
  have h4 : (Str.ofString "\r\n").length = 2 := by decide +kernel
  have h5 : sizeLine = 16777216 := by decide
  unfold JoinOk
  rw [StrLaws.joinTotal, List.length_map, h4]
  show (!decide _) = true
  rw [decide_eq_false (by omega)]
  rfl
abbrev RelOk (J : List Int → Str → Prop) (x : Str) : Prop := (∀ pre m, J pre m → m.length ≤ 1000000) ∧ ∀ pre (n : Nat) post m, KStt.codes x = pre ++ (n : Int) :: post → J pre m → (n = 45 → J (pre ++ [(n : Int)]) (unquoteS m)) ∧ (n ≠ 45 → J (pre ++ [(n : Int)]) (quoteS m))
section
variable {prog : Program} {w : World} {A : Around} {E : Value → Shared → Prop} {s : Shared} {h₀ : Heap} {L : Addr} {m : Str → Option Value} {news : List (Addr × Obj)} {Q : Value → Shared → Prop}
theorem split_K {x y : Str} {t u : Tok} (F : Fr h₀ L s.heap m) (N : News h₀ L s.heap news) (hy : (y.length == 0) = false) (hx : x.length ≤ 1000000)
    (hq : ∀ (l : List (Str × Tok)) k h' D, l.map (·.1) = Txt.split x y → Fr h₀ L h' m → News h₀ L h' ((D, { cls := .type "list", data := .seq (strValues l).toArray }) :: news) → Q (.ref D) { s with heap := h', toks := k }) :
    wpAny (model prog w) A (call (.builtin "str.split") [.str x t, .str y u]) Q E s := by
  have hsl : sizeLine = 16777216 := by decide
  refine split_rule hy (fun l k hl => hq l k _ _ hl (F.push _) (N.push F _)) (by omega) (by have h1 := PyProof.Rows.len_partsBetween x (Builtin.Str.occurrences x y 0 x.length (x.length + 1)) y.length; have h2 := StrLaws.occ_length_le x y 0 x.length (x.length + 1); omega)
end
theorem relLen {J : List Int → Str → Prop} {x : Str} {pre : List Int} {m : Str} (h : RelOk J x) (j : J pre m) : m.length ≤ 1000000 := h.1 _ _ j
local macro_rules | `(tactic| walk_at "call builtin:str.split") => `(tactic| (k_here; (refine' split_K ?k1 ?k2 ?k3 ?k4 ?_; (case k1 => k_asm); (case k2 => k_asm); (case k3 => decide +kernel); (case k4 => first | assumption | exact relLen (by assumption) (by assumption)); k_whole; intro l' k' h' D' hl' F' N'; (try dsimp only))))
local macro_rules | `(tactic| walk_at "call builtin:str.join") => `(tactic| (k_here; (refine' join_bare ?k1 ?k2 ?k3 ?k4 ?k5 ?k6 ?_; (case k1 => k_asm); (case k2 => k_asm); (case k3 => k_mem); (case k4 => assumption); (case k5 => assumption); (case k6 => exact relLen (by assumption) (by assumption)); k_whole; intro t' k' F' N'; (try dsimp only))))
local macro_rules | `(tactic| walk_at "eval ListComp") => `(tactic| (k_here; (with_reducible show wpAny _ _ (eval (Expr.ListComp (Expr.IfExp _ _ _ _) _ _ _) _) _ _ _); k_dflt (refine LCg.ListComp_U (F₀ := by k_asm) (by with_unfolding_all rfl) (by decide) (by rfl) (by decide) (by rfl) ?_)))
local macro_rules | `(tactic| walk_at "CompSrc") => `(tactic| fail "mine")
local macro_rules | `(tactic| walk_at "call ref") => `(tactic| (k_here; (with_reducible show wpAny _ _ (call (Value.ref 48) [Value.str _ _]) _ _ _); (refine' quote_call ?k1 ?k2 ?k3 ?k4 ?k5 ?k6 ?k7 ?k8 ?k9 ?_; (case k1 => k_asm); (case k2 => k_asm); (case k3 => k_asm); (case k4 => k_asm); (case k5 => k_asm); (case k6 => first | rfl | assumption); (case k7 => ktr_room); (case k8 => ktr_units); (case k9 => first | assumption | exact relLen (by assumption) (by assumption)); k_whole; intro t' h' k' F' N'; (try dsimp only))))
theorem splitSize {x y : Str} {l : List (Str × Tok)} (hl : l.map (·.1) = Txt.split x y) (hx : x.length ≤ 1000000) : l.length ≤ sizeLine := by
  have h1 := split_count x y
  have h2 := congrArg List.length hl
  rw [List.length_map] at h2
  have h5 : sizeLine = 16777216 := by decide
  omega
theorem splitLen {x y r : Str} {l : List (Str × Tok)} (hl : l.map (·.1) = Txt.split x y) (hx : x.length ≤ 1000000) (hr : r ∈ l.map (·.1)) : r.length ≤ 1000000 := by
  rw [hl] at hr
  exact Nat.le_trans (split_len hr) hx
theorem join_bare {prog : Program} {w : World} {A : Around} {E : Value → Shared → Prop} {s : Shared} {h₀ : Heap} {L : Addr} {m : Str → Option Value} {news : List (Addr × Obj)} {Q : Value → Shared → Prop} {x : Str} {t : Tok} {D : Addr} {l l' : List (Str × Tok)} {k : Nat} (F : Fr h₀ L s.heap m) (N : News h₀ L s.heap news)
    (hm : (D, ({ cls := .type "list", data := .seq (strValues l').toArray k } : Obj)) ∈ news) (hl : l.map (·.1) = Txt.split x (Str.ofString "\r\n")) (hl' : l'.map (·.1) = (l.map (·.1)).map bareS) (hx : x.length ≤ 1000000)
    (hq : ∀ t' k, Fr h₀ L s.heap m → News h₀ L s.heap news → Q (.str (unquoteS x) t') { s with toks := k }) : wpAny (model prog w) A (call (.builtin "str.join") [.str (Str.ofString "\r\n") t, .ref D]) Q E s := by
  rw [hl] at hl'
  exact SC.join ⟨_, (N _ hm).1, rfl, k, rfl⟩ hl' (joinOk_bare hx) fun t' k' => hq t' k' F N
theorem tend_of {h₀ h' : Heap} {L : Addr} {m : Str → Option Value} {news : List (Addr × Obj)} {s : Shared} {z y : Str} {t : Tok} {tk : Nat} (e : y = z) (F : Fr h₀ L h' m) (N : News h₀ L h' news) : TEnd h₀ L m s z news (.str y t) { s with heap := h', toks := tk } := by
  subst e
  exact ⟨h', tk, t, rfl, rfl, F, N⟩
theorem bare_yes {r : Str} (h : (Txt.slice r none (some 1) == Str.ofString ".") = true) : Txt.slice r (some 1) none = bareS r := (if_pos h).symm
theorem bare_no {r : Str} (h : (Txt.slice r none (some 1) == Str.ofString ".") = false) : r = bareS r := (if_neg (by rw [h]; exact Bool.false_ne_true)).symm
theorem dashS_eq {n : Nat} (h : ((Str.mk #[n]) == Str.ofString "-") = true) : n = 45 := by
  rw [dash_iff] at h
  have := of_decide_eq_true h
  omega
theorem dashS_ne {n : Nat} (h : ((Str.mk #[n]) == Str.ofString "-") = false) : n ≠ 45 := by
  rw [dash_iff] at h
  have := of_decide_eq_false h
  omega

theorem relayed_call {prog : Program} {w : World} {mean : ExcName → Option Value} {mg mb : Str → Option Value} {dp un : Nat} {gd : Option (List Code)} {cn : Str} {cs : Scope} {a : Addr} {ccd : Value} {cl : List (Str × Addr)} {outer : List Env} {A₀ : Around} {base h₀ : Heap} {L : Addr} {m : Str → Option Value} {news : List (Addr × Obj)} {s : Shared} {Q E : Value → Shared → Prop} {x y : Str} {t u : Tok} {J : List Int → Str → Prop}
    (B : Below A₀ base outer h₀) (F : Fr h₀ L s.heap m) (X : (hd.heap_39 w.params).In h₀) (N : News h₀ L s.heap news) (T : TopU mean mg mb h₀) (hk : cs.kind = .function) (hd : dp + 2 < recursionLimit) (hu : un + 16 < cLine) (hx : x.length ≤ 1000)
    (hJ : RelOk J x) (hy : J [] y)
    (hret : ∀ (z : Str) (t' : Tok) (h' : Heap) (tk' : Nat), J (KStt.codes x) z → Fr h₀ L h' m → News h₀ L h' news → Q (.str z t') { s with heap := h', toks := tk' }) :
    wpAny (model prog w) (ktrTop dp un gd cn cs L a ccd cl outer) (call (.ref 119) [.str x t, .str y u]) Q E s := by
  refine wpAny_call ?_
  k_dflt cell_enter
  k_with "pyIter str" => k_state (fun pre ml => J pre ml) "mail"
  k_with "state" => first | assumption | exact (hJ.2 _ _ _ _ (by assumption) (by assumption)).2 (dashS_ne (by assumption)) | exact (hJ.2 _ _ _ _ (by assumption) (by assumption)).1 (dashS_eq (by assumption))
  k_steps
  · have hml := relLen hJ (by assumption)
    refine compStrs bareS rfl (by k_asm) (by k_asm) (by k_mem) (splitSize (by assumption) hml) ?_ ?_
    · intro r' t' I' oI' C' oC' D' m₂' ys' h' tk' E' hr' hC' hx' F' N'
      have hrl := splitLen (by assumption) hml hr'
      clear hml
      k_steps
      all_goals first
        | exact tend_of (bare_yes (by assumption)) (by k_asm) (by k_asm)
        | exact tend_of (bare_no (by assumption)) (by k_asm) (by k_asm)
    · intro l' D' h' tk' hl' F' N'
      (try dsimp only)
      k_steps
      refine join_bare (by k_asm) (by k_asm) (by k_mem) (by assumption) (by assumption) hml ?_
      intro t' k' F' N'
      (try dsimp only)
      k_steps
  · exact hret _ _ _ _ (by assumption) (by k_asm) (by k_asm)
end Mine
end
-- E
section
open PySem PySem.W PyProof.Rows
namespace Mine

section
variable {prog : Program} {w : World} {A : Around} {E : Value → Shared → Prop} {s : Shared}
/-- a tuple's iterator: its next item, by the small types' way -/
theorem nextOf_item {it l : Addr} {i : Nat} {items : Array Value} {x : Value} {Q : Value → Shared → Prop} (hit : s.heap.IsTupleIter it l i) (hl : s.heap.IsTuple l items) (hx : items[i]? = some x)
    (hQ : ∀ h', h'.IsTupleIter it l (i + 1) → Heap.SameBut it s.heap h' → Q x { s with heap := h' }) : wpAny (model prog w) A (Builtin.SmallTypes.nextOf (.ref it)) Q E s := by
  obtain ⟨o, ho, hc, hd⟩ := id hit
  obtain ⟨ol, hol, _, nl, hdl⟩ := hl
  unfold Builtin.SmallTypes.nextOf
  refine wpAny_bind (wpAny_callSpecial?_slot (name := Str.ofString "__next__") hit.typeIs PySem.F.slot_tuple_iterator_next
    (wpAny_call_entry PySem.F.slot_tuple_iterator_next hit.typeIs PySem.F.entry_tuple_iterator_next ?_ (PySem.F.args_tuple_iterator_next_1 _)))
  show wpAny _ _ (field (.ref it) 0 >>= _) _ _ s
  refine wpAny_bind (wpAny_field ho hd (x := .ref l) rfl ?_)
  show wpAny _ _ (if (Value.ref l == Value.none) = true then _ else _) _ _ s
  rw [if_neg (show ¬ ((Value.ref l == Value.none) = true) from Bool.false_ne_true)]
  show wpAny _ _ (field (.ref it) 1 >>= _) _ _ s
  refine wpAny_bind (wpAny_field ho hd (x := .int i 0) rfl ?_)
  show wpAny _ _ (seqItems? (.ref l) >>= _) _ _ s
  refine wpAny_bind (wpAny_seqItems hol hdl ?_)
  simp only [Int.toNat_natCast, hx]
  refine wpAny_bind (wpAny_setField ho hd (by simp) (wpAny_pure ⟨x, rfl, wpAny_pure (hQ _ ⟨_, Heap.get?_update_self _ ho (Obj.isFreed_of_fields (Obj.data_mapFields hd _)), (Obj.cls_mapFields ..).trans hc, ?_⟩ (Heap.SameBut.update ..))⟩))
  rw [Obj.data_mapFields hd]
  simp [rawInt]
theorem nextOf_end {it l : Addr} {i : Nat} {items : Array Value} {Q : Value → Shared → Prop} (hh : A.handled = none) (hit : s.heap.IsTupleIter it l i) (hl : s.heap.IsTuple l items) (hx : items[i]? = none)
    (hE : ∀ h' e, Heap.ExtBut it s.heap h' → (∃ o, h'.get? e = some o ∧ o.cls = .type "StopIteration") → E (.ref e) { s with heap := h' }) : wpAny (model prog w) A (Builtin.SmallTypes.nextOf (.ref it)) Q E s := by
  obtain ⟨o, ho, hc, hd⟩ := id hit
  obtain ⟨ol, hol, _, nl, hdl⟩ := hl
  unfold Builtin.SmallTypes.nextOf
  refine wpAny_bind (wpAny_callSpecial?_slot (name := Str.ofString "__next__") hit.typeIs PySem.F.slot_tuple_iterator_next
    (wpAny_call_entry PySem.F.slot_tuple_iterator_next hit.typeIs PySem.F.entry_tuple_iterator_next ?_ (PySem.F.args_tuple_iterator_next_1 _)))
  show wpAny _ _ (field (.ref it) 0 >>= _) _ _ s
  refine wpAny_bind (wpAny_field ho hd (x := .ref l) rfl ?_)
  show wpAny _ _ (if (Value.ref l == Value.none) = true then _ else _) _ _ s
  rw [if_neg (show ¬ ((Value.ref l == Value.none) = true) from Bool.false_ne_true)]
  show wpAny _ _ (field (.ref it) 1 >>= _) _ _ s
  refine wpAny_bind (wpAny_field ho hd (x := .int i 0) rfl ?_)
  show wpAny _ _ (seqItems? (.ref l) >>= _) _ _ s
  refine wpAny_bind (wpAny_seqItems hol hdl ?_)
  simp only [Int.toNat_natCast, hx]
  refine wpAny_bind (wpAny_rule (wpAny_bind (wpAny_setField ho hd (by simp) ?_)))
  show wpAny _ _ (newExc (.type "StopIteration") [] >>= _) _ _ _
  refine wpAny_bind ?_
  simp only [newExc, newTuple]
  refine wpAny_bind (wpAny_newObj_type ?_ (by size_fits))
  refine wpAny_bind (m := firstArgMember _ _) (wpAny_of_eq (a := Value.none) (by first | rfl | (simp only [firstArgMember]; rfl)) ?_)
  refine wpAny_newObj_type ?_ (by size_fits)
  simp only [raiseNew]
  refine wpAny_bind (wpAny_handled ?_)
  first | rw [show A.in1.handled = none from hh] | rw [hh]
  refine wpAny_bind (wpAny_pure (wpAny_throw ?_))
  exact hE _ _ (((Heap.SameBut.update ..).extBut.push _).push _) ⟨_, Heap.get?_push_size _ rfl, rfl⟩

/-- enumerate over a tuple: a pair -/
theorem enum_item {e it l : Addr} {i : Nat} {items : Array Value} {x old : Value} {Q : Option Value → Shared → Prop} (he : IsEnum s.heap e it i old) (hit : s.heap.IsTupleIter it l i) (hl : s.heap.IsTuple l items) (hx : items[i]? = some x) (hne : e ≠ it) (hle : l ≠ e) (hli : l ≠ it)
    (hQ : ∀ h' T, IsEnumOut h' e it ((i : Int) + 1) x T → h'.IsTupleIter it l (i + 1) → h'.IsTuple l items → h'.get? T = some { cls := .type "tuple", data := .seq #[.int i s.toks, x] } → T = s.heap.objs.size →
      (∀ b o, b ≠ e → b ≠ it → s.heap.get? b = some o → h'.get? b = some o) → Q (some (.ref T)) { s with heap := h', toks := s.toks + 1 }) :
    wpAny (model prog w) A (pyNext (.ref e)) Q E s := by
  have hT : s.TypeIs (.ref e) "enumerate" := ⟨_, he, rfl⟩
  unfold pyNext
  refine wpAny_bind (wpAny_attempt (wpAny_callSpecial?_slot (name := Str.ofString "__next__") hT PySem.F.slot_enumerate_next
    (wpAny_call_entry PySem.F.slot_enumerate_next hT PySem.F.entry_enumerate_next ?_ (PySem.F.args_enumerate_next_1 _))))
  show wpAny _ _ (field (.ref e) 2 >>= _) _ _ s
  refine wpAny_bind (wpAny_field he rfl (x := .ref it) rfl ?_)
  refine wpAny_bind (nextOf_item hit hl hx fun h₁ hit₁ hs₁ => ?_)
  have he₁ : IsEnum h₁ e it i old := (hs₁.2 e hne).trans he
  show wpAny _ _ (field (.ref e) 3 >>= _) _ _ _
  refine wpAny_bind (wpAny_field (s := { s with heap := h₁ }) he₁ rfl (x := rawInt i) rfl ?_)
  show wpAny _ _ (field (.ref e) 4 >>= _) _ _ _
  refine wpAny_bind (wpAny_field (s := { s with heap := h₁ }) he₁ rfl (x := .none) rfl ?_)
  show wpAny _ _ (mkInt i >>= _) _ _ _
  refine wpAny_bind (wpAny_mkInt ?_)
  show wpAny _ _ (setField (.ref e) 3 (rawInt ((i : Int) + 1)) >>= _) _ _ _
  refine wpAny_bind (wpAny_setField_rec (s := { s with heap := h₁, toks := s.toks + 1 }) he₁ (by simp) fun h₂ he₂ hs₂ => ?_)
  show wpAny _ _ (setField (.ref e) 4 .none >>= _) _ _ _
  refine wpAny_bind (wpAny_setField_rec (s := { s with heap := h₂, toks := s.toks + 1 }) he₂ (by simp) fun h₃ he₃ hs₃ => ?_)
  show wpAny _ _ (newTuple [.int i s.toks, x] >>= _) _ _ _
  refine wpAny_bind (wpAny_newTuple ?_)
  have hs12 : Heap.SameBut e h₁ h₃ := Heap.SameBut.trans hs₂ hs₃
  generalize hh₄ : h₃.push { cls := .type "tuple", data := .seq #[.int i s.toks, x] } = h₄
  have hsz : h₃.objs.size = s.heap.objs.size := hs12.1.trans hs₁.1
  have hel : e < s.heap.objs.size := Heap.lt_size he
  have hT₄ : h₄.get? s.heap.objs.size = some { cls := .type "tuple", data := .seq #[.int i s.toks, x] } := by rw [← hh₄, ← hsz]; exact Heap.get?_push_size _ rfl
  have he₄ : IsEnum h₄ e it ((i : Int) + 1) old := by rw [← hh₄]; exact Heap.get?_push_of_some _ he₃
  have hk₄ : ∀ b o, b ≠ e → h₁.get? b = some o → h₄.get? b = some o := fun b o hb x => by rw [← hh₄]; exact Heap.get?_push_of_some _ (hs12.extBut b o hb x)
  show wpAny _ _ (Builtin.SmallTypes.ownedTupleIsFree (.ref e) >>= _) _ _ { s with heap := h₄, toks := s.toks + 1 }
  refine wpAny_bind ?_
  unfold Builtin.SmallTypes.ownedTupleIsFree
  refine wpAny_bind (wpAny_field (s := { s with heap := h₄, toks := s.toks + 1 }) he₄ rfl (x := .none) rfl (wpAny_pure ?_))
  simp only [if_true]
  refine wpAny_bind (wpAny_rule ?_)
  refine wpAny_bind (wpAny_field (s := { s with heap := h₄, toks := s.toks + 1 }) he₄ rfl (x := old) rfl ?_)
  refine wpAny_bind (wpAny_setField_rec (s := { s with heap := h₄, toks := s.toks + 1 }) he₄ (by simp) fun h₅ he₅ hs₅ => ?_)
  rw [hsz]
  show wpAny _ _ (Builtin.SmallTypes.ownedTupleHandOut (.ref e) (.ref s.heap.objs.size) >>= _) _ _ _
  refine wpAny_bind ?_
  unfold Builtin.SmallTypes.ownedTupleHandOut
  refine wpAny_bind (wpAny_setField_rec (s := { s with heap := h₅, toks := s.toks + 1 }) he₅ (by simp) fun h₆ he₆ hs₆ => ?_)
  refine wpAny_setField_rec (s := { s with heap := h₆, toks := s.toks + 1 }) he₆ (by simp) fun h₇ he₇ hs₇ => ?_
  have hs47 : Heap.SameBut e h₄ h₇ := Heap.SameBut.trans (Heap.SameBut.trans hs₅ hs₆) hs₇
  have hk₇ : ∀ b o, b ≠ e → h₁.get? b = some o → h₇.get? b = some o := fun b o hb x => hs47.extBut b o hb (hk₄ b o hb x)
  refine wpAny_bind (wpAny_letGo (wpAny_pure ⟨_, rfl, wpAny_pure (hQ h₇ _ he₇ (hit₁.at fun o x => hk₇ _ o (Ne.symm hne) x) (hl.at fun o x => hk₇ _ o hle (hs₁.extBut _ _ hli x)) (hs47.extBut _ _ (Nat.ne_of_gt hel) hT₄) rfl ?_)⟩))
  exact fun b o hbe hbi x => hk₇ b o hbe (hs₁.extBut b o hbi x)
theorem enum_end {e it l : Addr} {i : Nat} {items : Array Value} {old : Value} {Q : Option Value → Shared → Prop} (hh : A.handled = none) (he : IsEnum s.heap e it i old) (hit : s.heap.IsTupleIter it l i) (hl : s.heap.IsTuple l items) (hx : items[i]? = none)
    (hQ : ∀ h', Heap.ExtBut it s.heap h' → Q none { s with heap := h' }) : wpAny (model prog w) A (pyNext (.ref e)) Q E s := by
  have hT : s.TypeIs (.ref e) "enumerate" := ⟨_, he, rfl⟩
  unfold pyNext
  refine wpAny_bind (wpAny_attempt (wpAny_callSpecial?_slot (name := Str.ofString "__next__") hT PySem.F.slot_enumerate_next
    (wpAny_call_entry PySem.F.slot_enumerate_next hT PySem.F.entry_enumerate_next ?_ (PySem.F.args_enumerate_next_1 _))))
  show wpAny _ _ (field (.ref e) 2 >>= _) _ _ s
  refine wpAny_bind (wpAny_field he rfl (x := .ref it) rfl ?_)
  refine wpAny_bind (nextOf_end hh hit hl hx fun h' x he' hx' => ?_)
  obtain ⟨o, ho, hc⟩ := hx'
  refine wpAny_bind (wpAny_isInstance (T := "StopIteration") (b := true) ⟨o, ho, hc⟩ isSubtype_stop ?_)
  exact wpAny_pure (hQ _ he')
end

open AutoSeq1 (wpAny_loadPart') in
theorem meets_enumT (l : Addr) (items : Array Value) (n : Nat) (dct : Option Addr) (sl : Array (Option Value)) :
    Meets (Builtin.«enumerate.__new__» ⟨[.type "enumerate", .ref l], []⟩) (fun _ R s => s.heap.get? l = some { cls := .type "tuple", dict := dct, data := .seq items n, slots := sl } ∧
      R (.ok (.ret (.ref (s.heap.push { cls := .type "tuple_iterator", data := .fields #[.ref l, .int 0 0] }).objs.size)))
        { s with heap := (s.heap.push { cls := .type "tuple_iterator", data := .fields #[.ref l, .int 0 0] }).push { cls := .type "enumerate", data := .fields #[.none, .bool false, .ref s.heap.objs.size, rawInt 0, .none, .none] } }) :=
  .of_wp fun prog w A R s h => by
    obtain ⟨hp, g, d, tk, os⟩ := s
    obtain ⟨hl, h⟩ := h
    have hsub := sub_enumerate
    have hL : Heap.IsTuple (Shared.heap ⟨hp, g, d, tk, os⟩) l items := ⟨_, hl, rfl, n, rfl⟩
    wp_walk using wpAny_loadPart' hl
    refine wpAny_stack_any fun st => wpAny_pure ?_
    split
    · rename_i c _ _ _ _ _
      cases (c == Value.type "enumerate")
      · wp_walk using wpAny_loadPart' hl, wpAny_pyIter_tuple hL
        exact ⟨_, rfl, h⟩
      · wp_walk using wpAny_loadPart' hl, wpAny_pyIter_tuple hL
        exact ⟨_, rfl, h⟩
    · wp_walk using wpAny_loadPart' hl, wpAny_pyIter_tuple hL
      exact ⟨_, rfl, h⟩
theorem call_enumT {prog : Program} {w : World} {A : Around} {E : Value → Shared → Prop} {s : Shared} {l : Addr} {items : Array Value} {Q : Value → Shared → Prop} (hL : s.heap.IsTuple l items)
    (h : ∀ h' e it, e = s.heap.objs.size + 1 → it = s.heap.objs.size → IsEnum h' e it 0 .none → h'.IsTupleIter it l 0 → Ext s.heap h' → Q (.ref e) { s with heap := h' }) :
    wpAny (model prog w) A (call (.type "enumerate") [.ref l]) Q E s := by
  obtain ⟨⟨c, dct, dt, sl⟩, hl, hc, n, hd⟩ := hL
  replace hc : c = .type "tuple" := hc
  replace hd : dt = .seq items n := hd
  subst hc hd
  refine callType_new PySem.F.called_enumerate (by decide) (PySem.F.typeCall_enumerate_1 _) (PySem.F.newCall_enumerate_1 _) (fun obj => PySem.F.args_object_init_2 obj _) PySem.F.entry_enumerate_new
    (meets_enumT l items n dct sl) ⟨hl, ?_⟩
  have hz : (s.heap.push { cls := .type "tuple_iterator", data := .fields #[.ref l, .int 0 0] }).objs.size = s.heap.objs.size + 1 := Heap.size_push ..
  show _ ∧ _
  have he := Heap.get?_push_size (s.heap.push { cls := .type "tuple_iterator", data := .fields #[.ref l, .int 0 0] })
      (o := { cls := .type "enumerate", data := .fields #[.none, .bool false, .ref s.heap.objs.size, rawInt 0, .none, .none] }) rfl
  rw [hz] at he ⊢
  exact ⟨⟨_, he, rfl⟩, h _ _ _ rfl rfl he ⟨_, Heap.get?_push_of_some _ (Heap.get?_push_size _ rfl), rfl, rfl⟩ fun b o x => Heap.get?_push_of_some _ (Heap.get?_push_of_some _ x)⟩
end Mine
end
-- F
section
open PySem PySem.W PyProof.Rows
namespace Mine

theorem letGo_tup {prog : Program} {w : World} {A : Around} {E : Value → Shared → Prop} {s : Shared} {elts : List Expr} {kk : Nat} {pos : Pos} {I l T : Addr} {i : Nat} {Q : Unit → Shared → Prop} (hit : s.heap.IsTupleIter I l i) (hQ : Q () s) :
    wpAny (model prog w) A (letOwnedTupleGo (.Tuple elts kk pos) (.ref I) (.ref T)) Q E s := by
  obtain ⟨o, ho, hc, hd⟩ := hit
  unfold letOwnedTupleGo
  refine wpAny_bind (wpAny_load ho ?_)
  rw [hc, hd]
  show wpAny _ A (if (["enumerate", "zip", "dict_itemiterator", "dict_reverseitemiterator", "odict_iterator", "itertools.zip_longest", "itertools.pairwise"].contains "tuple_iterator" &&
      (#[.ref l, .int i 0] : Array Value)[0]? == some (rawInt T)) = true then _ else _) Q E s
  rw [if_neg (by simp)]
  exact wpAny_pure hQ

/-- a turn's end in a loop: on, or out -/
def TurnE (s₀ : Shared) (g : Heap) (L : Addr) (own : List (Addr × Obj)) (J Bk : (Str → Option Value) → List (Addr × Obj) → Prop) (f : Flow) (s₃ : Shared) : Prop :=
  ∃ h' tk' m' nw', s₃ = { s₀ with heap := h', toks := tk' } ∧ Fr g L h' m' ∧ News g L h' (own ++ nw') ∧ ((f = .next ∧ J m' nw') ∨ (f = .brk ∧ Bk m' nw'))

section
variable {prog : Program} {w : World} {A : Around} {s₀ : Shared} {g : Heap} {L : Addr} {elts : List Expr} {kk : Nat} {pos : Pos} {body orelse : List Stmt} {env : Env} {R : Result → Shared → Prop}

theorem fr_off {h h' : Heap} {m : Str → Option Value} {I : Addr} (F : Fr g L h m) (hk : ∀ b o, b ≠ I → h.get? b = some o → h'.get? b = some o) (hL : L ≠ I) (hI : g.get? I = none) : Fr g L h' m :=
  ⟨F.ns.at' fun o e => hk L o hL e, fun b o e => hk b o (fun x => by rw [x, hI] at e; cases e) (F.keep b o e), F.above⟩
theorem news_off {h h' : Heap} {nw : List (Addr × Obj)} {I : Addr} (N : News g L h nw) (hk : ∀ b o, b ≠ I → h.get? b = some o → h'.get? b = some o) (off : ∀ p ∈ nw, p.1 ≠ I) : News g L h' nw :=
  fun p hp => ⟨hk _ _ (off p hp) (N p hp).1, (N p hp).2⟩

/-- for a, b in a tuple of pairs that stands; else -/
theorem tup_loop {I ax : Addr} {items : Array Value} (hh : A.handled = none) (hax : g.IsTuple ax items) (hitems : ∀ (j : Nat) (v : Value), items[j]? = some v → ∃ T : Addr, v = Value.ref T)
    (J Bk : Nat → (Str → Option Value) → List (Addr × Obj) → Prop) (hJ : ∀ j m nw, J j m nw → ∀ p ∈ nw, p.1 ≠ I) (hB : ∀ j m nw, Bk j m nw → ∀ p ∈ nw, p.1 ≠ I)
    (turn : ∀ j T m nw h tk oi, items[j]? = some (.ref T) → J j m nw → Fr g L h m → News g L h ((I, oi) :: nw) →
      wpAny (model prog w) A (assign (.Tuple elts kk pos) env (.ref T)) (fun _ s₂ => wpAny (model prog w) A (execs body env) (TurnE s₀ g L [(I, oi)] (J (j + 1)) (Bk j)) (notedBy (model prog w) A env fun e s' => R (.error e) s') s₂) (notedBy (model prog w) A env fun e s' => R (.error e) s') { s₀ with heap := h, toks := tk })
    (els : ∀ m nw h tk, J items.size m nw → Fr g L h m → News g L h nw → wpAny (model prog w) A (execs orelse env) (fun f s₃ => R (.ok f) s₃) (notedBy (model prog w) A env fun e s' => R (.error e) s') { s₀ with heap := h, toks := tk })
    (brk : ∀ j m nw h tk, j < items.size → Bk j m nw → Fr g L h m → News g L h nw → R (.ok .next) { s₀ with heap := h, toks := tk })
    {m : Str → Option Value} {nw : List (Addr × Obj)} {h : Heap} {tk : Nat} {oi : Obj} (F : Fr g L h m) (N : News g L h ((I, oi) :: nw)) (hst : h.IsTupleIter I ax 0) (h0 : J 0 m nw) :
    codeAny (model prog w) A (.forLoop (.Tuple elts kk pos) (.ref I) body orelse env) R { s₀ with heap := h, toks := tk } := by
  have hL : L ≠ I := Ne.symm (N (I, oi) (.head _)).2.1
  have hI : g.get? I = none := (N (I, oi) (.head _)).2.2
  have hne : ax ≠ I := by rintro rfl; obtain ⟨o, e, _⟩ := hax; rw [hI] at e; cases e
  refine codeAny_forLoop_any (fun k s' => ∃ h' tk' m' nw' oi' j, s' = { s₀ with heap := h', toks := tk' } ∧ j ≤ items.size ∧ k = items.size + 1 - j ∧ h'.IsTupleIter I ax j ∧ Fr g L h' m' ∧ News g L h' ((I, oi') :: nw') ∧ J j m' nw') ?_ (items.size + 1)
    ⟨h, tk, m, nw, oi, 0, rfl, Nat.zero_le _, rfl, hst, F, N, h0⟩
  rintro k s' ⟨h', tk', m', nw', oi', j, rfl, hj, rfl, hst', F', N', hJ'⟩
  have hl : h'.IsTuple ax items := by obtain ⟨o, e, r⟩ := hax; exact ⟨o, F'.keep _ _ e, r⟩
  have Nw : News g L h' nw' := fun p hp => N' p (.tail _ hp)
  by_cases hlt : j < items.size
  · have hx : items[j]? = some items[j] := Array.getElem?_eq_getElem hlt
    obtain ⟨T, hT⟩ := hitems j _ hx
    rw [hT] at hx
    refine wpAny_pyNext_tuple_item (s := { s₀ with heap := h', toks := tk' }) hst' hl hx fun h₁ hit₁ hs₁ => ?_
    refine letGo_tup (s := { s₀ with heap := h₁, toks := tk' }) hit₁ ?_
    obtain ⟨o₁, ho₁, hc₁, hd₁⟩ := id hit₁
    have hk₁ : ∀ b o, b ≠ I → h'.get? b = some o → h₁.get? b = some o := fun b o hb e => hs₁.extBut b o hb e
    have N₁ : News g L h₁ ((I, o₁) :: nw') := fun p hp => by
      rcases List.mem_cons.mp hp with rfl | hp
      · exact ⟨ho₁, Ne.symm hL, hI⟩
      · exact news_off Nw hk₁ (hJ _ _ _ hJ') p hp
    refine wpAny_mono (turn j T m' nw' h₁ tk' o₁ hx hJ' (fr_off F' hk₁ hL hI) N₁) (fun _ s₂ h₂ => wpAny_mono h₂ (fun f s₃ h₃ => ?_) fun _ _ e => e) fun _ _ e => e
    obtain ⟨h₄, tk₄, m₄, nw₄, rfl, F₄, N₄, hf⟩ := h₃
    rcases hf with ⟨rfl, hJ₄⟩ | ⟨rfl, hB₄⟩
    · exact ⟨items.size + 1 - (j + 1), by omega, h₄, tk₄, m₄, nw₄, o₁, j + 1, rfl, hlt, rfl, ⟨o₁, (N₄ (I, o₁) (.head _)).1, hc₁, hd₁⟩, F₄, N₄, hJ₄⟩
    · exact brk j m₄ nw₄ h₄ tk₄ hlt hB₄ F₄ fun p hp => N₄ p (.tail _ hp)
  · obtain rfl : j = items.size := by omega
    refine wpAny_pyNext_tuple_end (s := { s₀ with heap := h', toks := tk' }) hh hst' hl (Array.getElem?_eq_none (Nat.le_refl _)) fun h₁ he₁ => ?_
    have hk₁ : ∀ b o, b ≠ I → h'.get? b = some o → h₁.get? b = some o := fun b o hb e => he₁ b o hb e
    exact els m' nw' h₁ tk' hJ' (fr_off F' hk₁ hL hI) (news_off Nw hk₁ (hJ _ _ _ hJ'))

abbrev pairOf (i : Nat) (t : Tok) (x : Value) : Obj := { cls := .type "tuple", data := .seq #[.int (i : Int) t, x] }
/-- for i, x in enumerate(a tuple that stands) -/
theorem enum_loop {e it ax : Addr} {items : Array Value} (hh : A.handled = none) (hei : e ≠ it) (hax : g.IsTuple ax items)
    (J : Nat → (Str → Option Value) → List (Addr × Obj) → Prop) (hJ : ∀ j m nw, J j m nw → ∀ p ∈ nw, p.1 ≠ e ∧ p.1 ≠ it)
    (turn : ∀ j x T t m nw h tk oe oi, items[j]? = some x → j < items.size → J j m nw → Fr g L h m → News g L h ((T, pairOf j t x) :: (e, oe) :: (it, oi) :: nw) →
      wpAny (model prog w) A (assign (.Tuple elts kk pos) env (.ref T)) (fun _ s₂ => wpAny (model prog w) A (execs body env) (TurnE s₀ g L [(e, oe), (it, oi)] (J (j + 1)) (fun _ _ => False)) (notedBy (model prog w) A env fun e s' => R (.error e) s') s₂) (notedBy (model prog w) A env fun e s' => R (.error e) s') { s₀ with heap := h, toks := tk })
    (done : ∀ m nw h tk, J items.size m nw → Fr g L h m → News g L h nw → R (.ok .next) { s₀ with heap := h, toks := tk })
    {m : Str → Option Value} {nw : List (Addr × Obj)} {h : Heap} {tk : Nat} {oe oi : Obj} (F : Fr g L h m) (N : News g L h ((e, oe) :: (it, oi) :: nw)) (hE : IsEnum h e it 0 .none) (hst : h.IsTupleIter it ax 0) (h0 : J 0 m nw) :
    codeAny (model prog w) A (.forLoop (.Tuple elts kk pos) (.ref e) body [] env) R { s₀ with heap := h, toks := tk } := by
  have hLe : L ≠ e := Ne.symm (N (e, oe) (.head _)).2.1
  have he : g.get? e = none := (N (e, oe) (.head _)).2.2
  have hLi : L ≠ it := Ne.symm (N (it, oi) (.tail _ (.head _))).2.1
  have hi : g.get? it = none := (N (it, oi) (.tail _ (.head _))).2.2
  have hae : ax ≠ e := by rintro rfl; obtain ⟨o, x, _⟩ := hax; rw [he] at x; cases x
  have hai : ax ≠ it := by rintro rfl; obtain ⟨o, x, _⟩ := hax; rw [hi] at x; cases x
  refine codeAny_forLoop_any (fun k s' => ∃ h' tk' m' nw' oe' oi' old j, s' = { s₀ with heap := h', toks := tk' } ∧ j ≤ items.size ∧ k = items.size + 1 - j ∧ IsEnum h' e it (j : Nat) old ∧ h'.IsTupleIter it ax j ∧ Fr g L h' m' ∧ News g L h' ((e, oe') :: (it, oi') :: nw') ∧ J j m' nw') ?_ (items.size + 1)
    ⟨h, tk, m, nw, oe, oi, .none, 0, rfl, Nat.zero_le _, rfl, hE, hst, F, N, h0⟩
  rintro k s' ⟨h', tk', m', nw', oe', oi', old, j, rfl, hj, rfl, hE', hst', F', N', hJ'⟩
  have hl : h'.IsTuple ax items := by obtain ⟨o, x, r⟩ := hax; exact ⟨o, F'.keep _ _ x, r⟩
  have Nw : News g L h' nw' := fun p hp => N' p (.tail _ (.tail _ hp))
  have hoff := hJ _ _ _ hJ'
  by_cases hlt : j < items.size
  · have hx : items[j]? = some items[j] := Array.getElem?_eq_getElem hlt
    refine enum_item (s := { s₀ with heap := h', toks := tk' }) hE' hst' hl hx hei hae hai fun h₁ T hO₁ hit₁ hl₁ hT₁ hTe hk₁ => ?_
    refine wpAny_letOwnedTupleGo_enum (s := { s₀ with heap := h₁, toks := tk' + 1 }) hO₁ fun h₂ hE₂ hs₂ => ?_
    have hTn : ∀ b o, h'.get? b = some o → b ≠ T := fun b o x hb => by rw [hb, hTe] at x; exact absurd (Heap.lt_size x) (Nat.lt_irrefl _)
    have hTe' : T ≠ e := Ne.symm (hTn e _ hE')
    have hk₂ : ∀ b o, b ≠ e → b ≠ it → h'.get? b = some o → h₂.get? b = some o := fun b o hb hb' x => hs₂.extBut b o hb (hk₁ b o hb hb' x)
    have hit₂ : h₂.IsTupleIter it ax (j + 1) := hit₁.extBut hs₂.extBut (Ne.symm hei)
    obtain ⟨o₂, ho₂, hc₂, hd₂⟩ := id hit₂
    have hLT : L ≠ T := by obtain ⟨o, _, _, x, _⟩ := F'.ns; exact hTn L o x
    have hgT : g.get? T = none := by
      cases q : g.get? T with
      | none => rfl
      | some o => exact absurd rfl (hTn T o (F'.keep _ _ q))
    have F₂ : Fr g L h₂ m' := ⟨F'.ns.at' fun o x => hk₂ L o hLe hLi x, fun b o x => hk₂ b o (fun y => by rw [y, he] at x; cases x) (fun y => by rw [y, hi] at x; cases x) (F'.keep b o x), F'.above⟩
    have hE₂' : IsEnum h₂ e it ((j + 1 : Nat) : Int) items[j] := hE₂
    have N₂ : News g L h₂ ((T, pairOf j tk' items[j]) :: (e, { cls := .type "enumerate", dict := none, data := .fields #[.none, .bool false, .ref it, rawInt ((j + 1 : Nat) : Int), .none, items[j]], slots := #[] }) :: (it, o₂) :: nw') := fun p hp => by
      rcases List.mem_cons.mp hp with rfl | hp
      · exact ⟨hs₂.extBut _ _ hTe' hT₁, Ne.symm hLT, hgT⟩
      · rcases List.mem_cons.mp hp with rfl | hp
        · exact ⟨hE₂', Ne.symm hLe, he⟩
        · rcases List.mem_cons.mp hp with rfl | hp
          · exact ⟨ho₂, Ne.symm hLi, hi⟩
          · exact ⟨hk₂ _ _ (hoff p hp).1 (hoff p hp).2 (Nw p hp).1, (Nw p hp).2⟩
    refine wpAny_mono (turn j _ T tk' m' nw' h₂ (tk' + 1) _ o₂ hx hlt hJ' F₂ N₂) (fun _ s₂ h₂ => wpAny_mono h₂ (fun f s₃ h₃ => ?_) fun _ _ e => e) fun _ _ e => e
    obtain ⟨h₄, tk₄, m₄, nw₄, rfl, F₄, N₄, hf⟩ := h₃
    rcases hf with ⟨rfl, hJ₄⟩ | ⟨_, hB₄⟩
    · exact ⟨items.size + 1 - (j + 1), by omega, h₄, tk₄, m₄, nw₄, _, o₂, items[j], j + 1, rfl, hlt, rfl, (N₄ _ (.head _)).1, ⟨o₂, (N₄ (it, o₂) (.tail _ (.head _))).1, hc₂, hd₂⟩, F₄, N₄, hJ₄⟩
    · exact hB₄.elim
  · obtain rfl : j = items.size := by omega
    refine enum_end (s := { s₀ with heap := h', toks := tk' }) hh hE' hst' hl (Array.getElem?_eq_none (Nat.le_refl _)) fun h₁ he₁ => ?_
    refine wpAny_execs_nil ?_
    have hk₁ : ∀ b o, b ≠ it → h'.get? b = some o → h₁.get? b = some o := fun b o hb x => he₁ b o hb x
    exact done m' nw' h₁ tk' hJ' (fr_off F' hk₁ hLi hi) (news_off Nw hk₁ fun p hp => (hoff p hp).2)
end
end Mine
end
-- G
section
open PySem PySem.W PyProof.Rows
namespace Mine
theorem fresh_UnG : True := by (w_top off; k_with_none; trivial)
theorem fillU5 : (fun (_ : OpenLaw) (_ : Params → Frag) => True) PySem.Challenge.rw_un0006_01 hd.heap_39 := by (k_fill; trivial)

/-- filemode's frame -/
abbrev fmV (mv : Value) (P : Addr) (idx tab b c : Option Value) : Str → Option Value := fun y =>
  if y = Str.ofString "char" then c else if y = Str.ofString "bit" then b else if y = Str.ofString "table" then tab else if y = Str.ofString "index" then idx else if y = Str.ofString "perm" then some (.ref P) else if y = Str.ofString "mode" then some mv else none
/-- the table -/
def fmTab : List (Addr × List (Addr × Int × Str)) := [
  (70, [(63, 40960, Str.ofString "l"), (64, 49152, Str.ofString "s"), (65, 32768, Str.ofString "-"), (66, 24576, Str.ofString "b"), (67, 16384, Str.ofString "d"), (68, 8192, Str.ofString "c"), (69, 4096, Str.ofString "p")]),
  (72, [(71, 256, Str.ofString "r")]), (74, [(73, 128, Str.ofString "w")]), (78, [(75, 2112, Str.ofString "s"), (76, 2048, Str.ofString "S"), (77, 64, Str.ofString "x")]),
  (80, [(79, 32, Str.ofString "r")]), (82, [(81, 16, Str.ofString "w")]), (86, [(83, 1032, Str.ofString "s"), (84, 1024, Str.ofString "S"), (85, 8, Str.ofString "x")]),
  (88, [(87, 4, Str.ofString "r")]), (90, [(89, 2, Str.ofString "w")]), (94, [(91, 513, Str.ofString "t"), (92, 512, Str.ofString "T"), (93, 1, Str.ofString "x")])]
def fmItems : Array Value := #[.ref 70, .ref 72, .ref 74, .ref 78, .ref 80, .ref 82, .ref 86, .ref 88, .ref 90, .ref 94]
theorem fm_top {w : World} {g : Heap} (X : (hd.heap_39 w.params).In g) : g.IsTuple 95 fmItems := ⟨_, X 95 _ rfl, rfl, _, rfl⟩
theorem fm_row {w : World} {g : Heap} (X : (hd.heap_39 w.params).In g) : ∀ p ∈ fmTab, g.IsTuple p.1 (p.2.map fun q => Value.ref q.1).toArray := by
  intro p hp
  simp only [fmTab, List.mem_cons, List.not_mem_nil, or_false] at hp
  rcases hp with rfl | rfl | rfl | rfl | rfl | rfl | rfl | rfl | rfl | rfl <;> exact ⟨_, X _ _ rfl, rfl, _, rfl⟩
theorem fm_pair {w : World} {g : Heap} (X : (hd.heap_39 w.params).In g) : ∀ p ∈ fmTab, ∀ q ∈ p.2, ∃ tb tc, g.IsTuple q.1 #[.int q.2.1 tb, .str q.2.2 tc] := by
  intro p hp q hq
  simp only [fmTab, List.mem_cons, List.not_mem_nil, or_false] at hp
  rcases hp with rfl | rfl | rfl | rfl | rfl | rfl | rfl | rfl | rfl | rfl <;> simp only [List.mem_cons, List.not_mem_nil, or_false] at hq <;>
    (first
      | (rcases hq with rfl | rfl | rfl | rfl | rfl | rfl | rfl <;> exact ⟨_, _, _, X _ _ rfl, rfl, _, rfl⟩)
      | (rcases hq with rfl | rfl | rfl <;> exact ⟨_, _, _, X _ _ rfl, rfl, _, rfl⟩)
      | (rcases hq with rfl; exact ⟨_, _, _, X _ _ rfl, rfl, _, rfl⟩))
theorem fm_at (i : Nat) (x : Value) (h : fmItems[i]? = some x) : ∃ p, fmTab[i]? = some p ∧ x = .ref p.1 := by
  have : i < 10 := by
    have := (Array.getElem?_eq_some_iff.mp h).1
    simpa [fmItems] using this
  have key : ∀ i < 10, fmItems[i]? = (fmTab[i]?).map fun p => Value.ref p.1 := by decide +kernel
  rw [key i this] at h
  cases hp : fmTab[i]? with
  | none => rw [hp] at h; cases h
  | some p => rw [hp] at h; cases h; exact ⟨p, rfl, rfl⟩

def fmHit (i : Nat) (md b : Int) : Bool := if i = 0 then Builtin.bitAnd md 61440 == b else Builtin.bitAnd md b == b
def fmPick (i : Nat) (md : Int) (es : List (Addr × Int × Str)) : Str := match es.find? (fun e => fmHit i md e.2.1) with
  | some e => e.2.2
  | none => if i = 0 then Str.ofString "?" else Str.ofString "-"
def fmPicks (md : Int) (n : Nat) : List Str := (List.range n).map fun i => fmPick i md ((fmTab[i]?.map (·.2)).getD [])

theorem fr_eq {h₀ h : Heap} {L : Addr} {m m' : Str → Option Value} (F : Fr h₀ L h m) (e : ∀ y, m y = m' y) : Fr h₀ L h m' := (funext e : m = m') ▸ F
theorem new_none {g h : Heap} {L : Addr} {m : Str → Option Value} (F : Fr g L h m) {b : Addr} (hb : h.objs.size ≤ b) : g.get? b = none ∧ b ≠ L := by
  refine ⟨?_, fun e => ?_⟩
  · cases q : g.get? b with
    | none => rfl
    | some o => exact absurd (Heap.lt_size (F.keep _ _ q)) (Nat.not_lt.mpr hb)
  · have := F.ns.lt
    rw [e] at hb
    exact absurd this (Nat.not_lt.mpr hb)
theorem enum_news {g h h3 : Heap} {L e it : Addr} {m : Str → Option Value} {oe oi : Obj} {nw : List (Addr × Obj)} (F : Fr g L h m) (N : News g L h nw) (hX : Ext h h3) (he : e = h.objs.size + 1) (hit : it = h.objs.size) (hE : h3.get? e = some oe) (hI : h3.get? it = some oi) :
    News g L h3 ((e, oe) :: (it, oi) :: nw) := fun p hp => by
  have a := new_none F (b := e) (by rw [he]; exact Nat.le_succ _)
  have b := new_none F (b := it) (by rw [hit]; exact Nat.le_refl _)
  rcases List.mem_cons.mp hp with rfl | hp
  · exact ⟨hE, a.2, a.1⟩
  · rcases List.mem_cons.mp hp with rfl | hp
    · exact ⟨hI, b.2, b.1⟩
    · exact News.ext N hX p hp
theorem fm_start {mv : Value} {P : Addr} (y : Str) : (if y = Str.ofString "perm" then some (Value.ref P) else List.lookup y [(Str.ofString "mode", mv)]) = fmV mv P none none none none y := by
  by_cases h1 : y = Str.ofString "char"
  · subst h1; rfl
  · by_cases h2 : y = Str.ofString "bit"
    · subst h2; rfl
    · by_cases h3 : y = Str.ofString "table"
      · subst h3; rfl
      · by_cases h4 : y = Str.ofString "index"
        · subst h4; rfl
        · by_cases h5 : y = Str.ofString "mode"
          · subst h5; rfl
          · have : (y == Str.ofString "mode") = false := by rw [beq_eq_false_iff_ne]; exact h5
            simp only [fmV, h1, h2, h3, h4, h5, if_false, List.lookup, this]
theorem append_S {prog : Program} {w : World} {A : Around} {E : Value → Shared → Prop} {s : Shared} {g : Heap} {L P : Addr} {m : Str → Option Value} {l : List (Str × Tok)} {ep : Nat} {x : Str} {tx : Tok} {rest : List (Addr × Obj)} {Q : Value → Shared → Prop} (F : Fr g L s.heap m)
    (N : News g L s.heap ((P, W.listOf (strValues l).toArray ep) :: rest)) (hoff : ∀ p ∈ rest, p.1 ≠ P) (hl : l.length ≤ 1000)
    (hq : ∀ h', Fr g L h' m → News g L h' ((P, W.listOf (strValues (l ++ [(x, tx)])).toArray (ep + 1)) :: rest) → Q .none { s with heap := h' }) :
    wpAny (model prog w) A (call (.builtin "list.append") [.ref P, .str x tx]) Q E s := by
  have hP := N (P, _) (.head _)
  have hsl : sizeLine = 16777216 := by decide
  have hz : (strValues l).toArray.size = l.length := by simp [strValues]
  refine append_at hP.1 (fun h' hs hD => ?_) (by rw [hz]; omega)
  have e : (strValues l).toArray.push (.str x tx) = (strValues (l ++ [(x, tx)])).toArray := by simp [strValues]
  rw [e] at hD
  refine hq h' (fr_off F (fun b o hb x => hs.extBut b o hb x) (Ne.symm hP.2.1) hP.2.2) fun p hp => ?_
  rcases List.mem_cons.mp hp with rfl | hp
  · exact ⟨hD, hP.2⟩
  · exact ⟨hs.extBut _ _ (hoff p hp) (N p (.tail _ hp)).1, (N p (.tail _ hp)).2⟩
theorem re5 {g h : Heap} {L : Addr} {a b c d e : Addr × Obj} {rest : List (Addr × Obj)} (N : News g L h (a :: b :: c :: d :: e :: rest)) : News g L h (a :: e :: c :: d :: rest) :=
  fun p hp => N p (by simp only [List.mem_cons] at hp ⊢; rcases hp with h | h | h | h | h <;> simp [h])
theorem re2 {g h : Heap} {L : Addr} {a b : Addr × Obj} {rest : List (Addr × Obj)} (N : News g L h (a :: b :: rest)) : News g L h (b :: a :: rest) :=
  fun p hp => N p (by simp only [List.mem_cons] at hp ⊢; rcases hp with h | h | h <;> simp [h])
theorem re3 {g h : Heap} {L : Addr} {a b c : Addr × Obj} {rest : List (Addr × Obj)} (N : News g L h (a :: b :: c :: rest)) : News g L h (b :: c :: a :: rest) :=
  fun p hp => N p (by simp only [List.mem_cons] at hp ⊢; rcases hp with h | h | h | h <;> simp [h])
theorem hit_yes0 {j : Nat} {md b : Int} (h : (j : Int) = 0) (h' : Builtin.bitAnd md 61440 = b) : fmHit j md b = true := by
  have : j = 0 := by omega
  unfold fmHit
  rw [if_pos this, h']
  simp
theorem hit_no0 {j : Nat} {md b : Int} (h : (j : Int) = 0) (h' : Builtin.bitAnd md 61440 ≠ b) : fmHit j md b = false := by
  have : j = 0 := by omega
  unfold fmHit
  rw [if_pos this]
  simpa using h'
theorem hit_yes {j : Nat} {md b : Int} (h : (j : Int) ≠ 0) (h' : Builtin.bitAnd md b = b) : fmHit j md b = true := by
  have : j ≠ 0 := by omega
  unfold fmHit
  rw [if_neg this, h']
  simp
theorem hit_no {j : Nat} {md b : Int} (h : (j : Int) ≠ 0) (h' : Builtin.bitAnd md b ≠ b) : fmHit j md b = false := by
  have : j ≠ 0 := by omega
  unfold fmHit
  rw [if_neg this]
  simpa using h'
theorem none_snoc {α : Type} {es : List α} {f : α → Bool} {k : Nat} {q : α} (hn : ∀ x ∈ es.take k, f x = false) (hq : es[k]? = some q) (h : f q = false) : ∀ x ∈ es.take (k + 1), f x = false := by
  intro x hx
  rw [List.take_add_one, hq] at hx
  simp only [Option.toList_some, List.mem_append, List.mem_singleton] at hx
  rcases hx with hx | hx
  · exact hn x hx
  · rw [hx]; exact h
theorem find_hit {α : Type} {f : α → Bool} : ∀ {es : List α} {k : Nat} {q : α}, es[k]? = some q → f q = true → (∀ x ∈ es.take k, f x = false) → es.find? f = some q
  | [], k, _, h, _, _ => by simp at h
  | a :: r, 0, q, h, hf, _ => by
    simp at h
    subst h
    simp [hf]
  | a :: r, k + 1, q, h, hf, hn => by
    have ha : f a = false := hn a (by simp)
    rw [List.find?_cons, ha]
    exact find_hit (by simpa using h) hf fun x hx => hn x (by simp [hx])
theorem pick_hit {j : Nat} {md : Int} {es : List (Addr × Int × Str)} {k : Nat} {q : Addr × Int × Str} (hq : es[k]? = some q) (h : fmHit j md q.2.1 = true) (hn : ∀ x ∈ es.take k, fmHit j md x.2.1 = false) : fmPick j md es = q.2.2 := by
  unfold fmPick
  rw [find_hit (f := fun e => fmHit j md e.2.1) hq h hn]
theorem pick_none {j : Nat} {md : Int} {es : List (Addr × Int × Str)} (hn : ∀ x ∈ es, fmHit j md x.2.1 = false) : fmPick j md es = if j = 0 then Str.ofString "?" else Str.ofString "-" := by
  unfold fmPick
  rw [List.find?_eq_none.mpr fun x hx => by rw [hn x hx]; exact Bool.false_ne_true]
theorem fmPick_len (i : Nat) (md : Int) : ∀ es : List (Addr × Int × Str), (∀ e ∈ es, e.2.2.length = 1) → (fmPick i md es).length = 1 := by
  intro es h
  unfold fmPick
  split
  · rename_i e he
    exact h e (List.mem_of_find?_eq_some he)
  · split <;> decide +kernel
theorem fmTab_len : ∀ p ∈ fmTab, ∀ e ∈ p.2, e.2.2.length = 1 := by decide +kernel
theorem fmPicks_sum (md : Int) (n : Nat) : ((fmPicks md n).map (·.length)).sum = n := by
  have key : ∀ i, (fmPick i md ((fmTab[i]?.map (·.2)).getD [])).length = 1 := fun i => by
    refine fmPick_len _ _ _ ?_
    cases h : fmTab[i]? with
    | none => intro e he; cases he
    | some p => exact fmTab_len p (List.mem_of_getElem? h)
  induction n with
  | zero => rfl
  | succ n ih =>
    have : fmPicks md (n + 1) = fmPicks md n ++ [fmPick n md ((fmTab[n]?.map (·.2)).getD [])] := by
      unfold fmPicks
      rw [List.range_succ, List.map_append]
      rfl
    rw [this, List.map_append, List.sum_append, ih]
    simp [key]
theorem fm_joinOk (md : Int) : JoinOk (Str.ofString "") (fmPicks md 10) = true := by
  unfold JoinOk
  rw [StrLaws.joinTotal, fmPicks_sum]
  have h4 : (Str.ofString "").length = 0 := by decide +kernel
  rw [h4]
  rfl
theorem fm_join (md : Int) : Txt.join (Str.ofString "") (fmPicks md 10) = Str.join ⟨#[]⟩ (fmPicks md 10) := by
  have h4 : Str.ofString "" = ⟨#[]⟩ := by decide +kernel
  show Builtin.Str.glued (Str.ofString "") _ = _
  rw [StrLaws.glued_eq_join, h4]
/-- a turn of filemode's own loop, the table read -/
theorem fm_set2 {mv : Value} {P : Addr} {idx tab b c : Option Value} {i x : Value} (y : Str) : (if y = Str.ofString "table" then some x else if y = Str.ofString "index" then some i else fmV mv P idx tab b c y) = fmV mv P (some i) (some x) b c y := by
  by_cases h1 : y = Str.ofString "char"
  · subst h1; rfl
  · by_cases h2 : y = Str.ofString "bit"
    · subst h2; rfl
    · simp only [fmV, h1, h2, if_false]
      split
      · rfl
      · split <;> rfl
theorem fm_set1 {mv : Value} {P : Addr} {idx tab b c : Option Value} {i x : Value} (y : Str) : (if y = Str.ofString "char" then some x else if y = Str.ofString "bit" then some i else fmV mv P idx tab b c y) = fmV mv P idx tab (some i) (some x) y := by
  simp only [fmV]
  split
  · rfl
  · split <;> rfl
theorem ifmt_call {prog : Program} {w : World} {mean : ExcName → Option Value} {mg mb : Str → Option Value} {dp un : Nat} {gd : Option (List Code)} {cn : Str} {cs : Scope} {a : Addr} {ccd : Value} {cl : List (Str × Addr)} {outer : List Env} {A₀ : Around} {base h₀ : Heap} {L : Addr} {m : Str → Option Value} {news : List (Addr × Obj)} {s : Shared} {Q E : Value → Shared → Prop} {md : Int} {t : Tok}
    (B : Below A₀ base outer h₀) (F : Fr h₀ L s.heap m) (X : (hd.heap_39 w.params).In h₀) (N : News h₀ L s.heap news) (T : TopU mean mg mb h₀) (hk : cs.kind = .function) (hd : dp + 1 < recursionLimit) (hu : un + 8 < cLine)
    (hret : ∀ (t' : Tok) (h' : Heap) (tk' : Nat), Fr h₀ L h' m → News h₀ L h' news → Q (.int (Builtin.bitAnd md 61440) t') { s with heap := h', toks := tk' }) :
    wpAny (model prog w) (ktrTop dp un gd cn cs L a ccd cl outer) (call (.ref 62) [.int md t]) Q E s := by
  refine wpAny_call ?_
  k_dflt cell_enter
  k_steps
  all_goals exact hret _ _ _ (by k_asm) (by k_asm)
local macro_rules | `(tactic| walk_at "call ref") => `(tactic| (k_here; (with_reducible show wpAny _ _ (call (Value.ref 62) [Value.int _ _]) _ _ _); (refine' ifmt_call ?k1 ?k2 ?k3 ?k4 ?k5 ?k6 ?k7 ?k8 ?_; (case k1 => k_asm); (case k2 => k_asm); (case k3 => k_asm); (case k4 => k_asm); (case k5 => k_asm); (case k6 => first | rfl | assumption); (case k7 => ktr_room); (case k8 => ktr_units); k_whole; intro t' h' k' F' N'; (try dsimp only))))
local macro_rules | `(tactic| walk_at "call builtin:list.append") => `(tactic| (k_here; (with_reducible show wpAny _ _ (call (Value.builtin _) [Value.ref _, Value.str _ _]) _ _ _); k_dflt (refine' append_S ?k1 ?k2 ?k3 ?k4 ?_; (case k1 => k_asm); (case k2 => k_asm); (case k3 => assumption); (case k4 => omega); k_whole); intro h' F' N'; (try dsimp only)))
local macro_rules | `(tactic| walk_at "exec For Tuple Call") => `(tactic| (k_here; k_dflt (refine wpAny_For ?_)))
local macro_rules | `(tactic| walk_at "exec For Tuple Name") => `(tactic| (k_here; k_dflt (refine wpAny_For ?_)))
theorem filemode_call {prog : Program} {w : World} {mean : ExcName → Option Value} {mg mb : Str → Option Value} {dp un : Nat} {gd : Option (List Code)} {cn : Str} {cs : Scope} {a : Addr} {ccd : Value} {cl : List (Str × Addr)} {outer : List Env} {A₀ : Around} {base h₀ : Heap} {L : Addr} {m : Str → Option Value} {news : List (Addr × Obj)} {s : Shared} {Q E : Value → Shared → Prop} {md : Int} {t : Tok}
    (B : Below A₀ base outer h₀) (F : Fr h₀ L s.heap m) (X : (hd.heap_39 w.params).In h₀) (N : News h₀ L s.heap news) (T : TopU mean mg mb h₀) (hk : cs.kind = .function) (hd : dp + 2 < recursionLimit) (hu : un + 16 < cLine)
    (hret : ∀ (t' : Tok) (h' : Heap) (tk' : Nat), Fr h₀ L h' m → News h₀ L h' news → Q (.str (Str.join ⟨#[]⟩ (fmPicks md 10)) t') { s with heap := h', toks := tk' }) :
    wpAny (model prog w) (ktrTop dp un gd cn cs L a ccd cl outer) (call (.ref 102) [.int md t]) Q E s := by
  refine wpAny_call ?_
  k_dflt cell_enter
  k_steps
  rename Fr _ _ _ _ => F1
  rename News _ _ _ (_ :: _) => N1
  rename Below _ _ _ _ => B1
  rename Top _ _ _ _ _ _ => T1
  rename Frag.In _ _ => X1
  rename (∀ p ∈ news, p.1 < _) => hPn
  rename_i g' L' h1 FG tk0 P h2 _
  refine call_enumT (l := 95) (items := fmItems) ((fm_top X1).at fun o e => F1.keep _ _ e) ?_
  intro h3 e it he hit hE hI hX
  (try dsimp only)
  refine wpAny_pyIter_enum hE ?_
  (try dsimp only)
  have hPh := Heap.lt_size (N1 _ (.head _)).1
  have hPe : P ≠ e := by rw [he]; exact Nat.ne_of_lt (Nat.lt_succ_of_lt hPh)
  have hPi : P ≠ it := by rw [hit]; exact Nat.ne_of_lt hPh
  have hNe : ∀ p ∈ news, p.1 ≠ e ∧ p.1 ≠ it := fun p hp => by
    have := Heap.lt_size (N1 p (.tail _ hp)).1
    rw [he, hit]
    exact ⟨Nat.ne_of_lt (Nat.lt_succ_of_lt this), Nat.ne_of_lt this⟩
  have hei : e ≠ it := by rw [he, hit]; exact Nat.succ_ne_self _
  have N3 := News.ext N1 hX
  have F3 := Fr.ext F1 hX
  have F4 := fr_eq F3 fm_start
  obtain ⟨oi, hoi, hic, hid⟩ := id hI
  have N4 := enum_news F1 N1 hX he hit hE hoi
  refine enum_loop (s₀ := s) (items := fmItems) rfl hei (fm_top X1)
    (fun i m nw => ∃ idx tab b c l ep, m = fmV (.int md t) P idx tab b c ∧ nw = (P, W.listOf (strValues l).toArray ep) :: news ∧ l.map (·.1) = fmPicks md i ∧ i ≤ 10) ?_ ?_ ?_ F4 N4 hE hI ⟨none, none, none, none, [], 0, rfl, rfl, rfl, by omega⟩
  · rintro j m' nw ⟨idx, tab, b, c, l, ep, rfl, rfl, _, _⟩ p hp
    rcases List.mem_cons.mp hp with rfl | hp
    · exact ⟨hPe, hPi⟩
    · exact hNe p hp
  · rintro j x T tt m' nw h tk' oe oi' hx hj ⟨idx, tab, b, c, l, ep, rfl, rfl, hl, hj10⟩ F5 N5
    have hfi : fmItems.size = 10 := rfl
    obtain ⟨row, hrow, rfl⟩ := fm_at j x hx
    have hrm : row ∈ fmTab := List.mem_of_getElem? hrow
    have hrowt := fm_row X1 row hrm
    have hpairs := fm_pair X1 row hrm
    k_steps
    rename Fr _ _ _ _ => F6
    rename News _ _ _ _ => N6
    refine wpAny_pyIter_tuple (hrowt.at fun o e => F6.keep _ _ e) ?_
    (try dsimp only)
    have F7 := fr_eq (F6.push { cls := .type "tuple_iterator", data := .fields #[.ref row.1, .int 0 0] }) fm_set2
    have N7 := N6.push F6 { cls := .type "tuple_iterator", data := .fields #[.ref row.1, .int 0 0] }
    have hIoff : ∀ p ∈ ((T, pairOf j tt (Value.ref row.1)) :: (e, oe) :: (it, oi') :: (P, W.listOf (strValues l).toArray ep) :: news), p.1 ≠ _ := fun p hp => Nat.ne_of_lt (Heap.lt_size (N6 p hp).1)
    have hll : l.length ≤ 10 := by
      have := congrArg List.length hl
      simp [fmPicks] at this
      omega
    have hPoff : ∀ p ∈ ((e, oe) :: (it, oi') :: news), p.1 ≠ P := fun p hp => by
      simp only [List.mem_cons] at hp
      rcases hp with h | h | h
      · rw [h]; exact Ne.symm hPe
      · rw [h]; exact Ne.symm hPi
      · exact Nat.ne_of_lt (hPn p h)
    have hPI := hIoff (P, _) (.tail _ (.tail _ (.tail _ (.head _))))
    have hIoff2 : ∀ (o1 : Obj), ∀ p ∈ ((P, o1) :: (e, oe) :: (it, oi') :: news), p.1 ≠ _ := fun o1 p hp => by
      simp only [List.mem_cons] at hp
      rcases hp with h | h | h | h
      · rw [h]; exact hPI
      · rw [h]; exact hIoff (e, oe) (.tail _ (.head _))
      · rw [h]; exact hIoff (it, oi') (.tail _ (.tail _ (.head _)))
      · exact hIoff p (.tail _ (.tail _ (.tail _ (.tail _ h))))
    have hnx : fmPicks md (j + 1) = fmPicks md j ++ [fmPick j md row.2] := by
      unfold fmPicks
      rw [List.range_succ, List.map_append]
      simp [hrow]
    refine tup_loop (s₀ := s) (items := (row.2.map fun q => Value.ref q.1).toArray) (nw := (P, W.listOf (strValues l).toArray ep) :: (e, oe) :: (it, oi') :: news) rfl hrowt ?_
      (fun k m nw => ∃ b c, m = fmV (.int md t) P (some (.int j tt)) (some (.ref row.1)) b c ∧ nw = (P, W.listOf (strValues l).toArray ep) :: (e, oe) :: (it, oi') :: news ∧ ∀ q ∈ row.2.take k, fmHit j md q.2.1 = false)
      (fun k m nw => ∃ b c l' ep' q, m = fmV (.int md t) P (some (.int j tt)) (some (.ref row.1)) b c ∧ nw = (P, W.listOf (strValues l').toArray ep') :: (e, oe) :: (it, oi') :: news ∧ row.2[k]? = some q ∧ fmHit j md q.2.1 = true ∧ (∀ q ∈ row.2.take k, fmHit j md q.2.1 = false) ∧ l'.map (·.1) = fmPicks md j ++ [q.2.2])
      ?_ ?_ ?_ ?_ ?_ F7 (re5 N7) ⟨_, Heap.get?_push_size _ rfl, rfl, rfl⟩ ⟨b, c, rfl, rfl, by simp⟩
    · intro k v hv
      simp at hv
      obtain ⟨q, _, rfl⟩ := hv
      exact ⟨_, rfl⟩
    · rintro k m' nw ⟨b, c, _, rfl, _⟩
      exact hIoff2 _
    · rintro k m' nw ⟨b, c, l', ep', q, _, rfl, _⟩
      exact hIoff2 _
    · rintro k T2 m2 nw2 h tk oi2 hT2 ⟨b', c', rfl, rfl, hnone⟩ F8 N8
      simp at hT2
      obtain ⟨b0, c0, hq⟩ := hT2
      obtain ⟨tb, tc, htup⟩ := hpairs _ (List.mem_of_getElem? hq)
      have htup2 : IsTup h T2 #[.int b0 tb, .str c0 tc] := htup.at fun o e => F8.keep _ _ e
      have hPo : ∀ p ∈ ((_, oi2) :: (e, oe) :: (it, oi') :: news), p.1 ≠ P := List.forall_mem_cons.mpr ⟨Ne.symm hPI, hPoff⟩
      have N9 := re2 N8
      clear N8 hIoff hPoff
      (try clear N7); (try clear F7); (try clear F6); (try clear N6); (try clear N5); (try clear F5); (try clear N4); (try clear F4); (try clear F3); (try clear N3); (try clear F1); (try clear N1)
      k_steps
      all_goals (rename Fr _ _ _ _ => FZ)
      all_goals (rename News _ _ _ _ => NZ)
      · exact ⟨_, _, _, _, rfl, fr_eq FZ fm_set1, re2 NZ, .inr ⟨rfl, _, _, l ++ [(c0, tc)], _, (T2, b0, c0), rfl, rfl, hq, hit_yes0 (by assumption) (by assumption), hnone, by rw [List.map_append, hl]; rfl⟩⟩
      · exact ⟨_, _, _, _, rfl, fr_eq FZ fm_set1, re2 NZ, .inl ⟨rfl, _, _, rfl, rfl, none_snoc hnone hq (hit_no0 (by assumption) (by assumption))⟩⟩
      · exact ⟨_, _, _, _, rfl, fr_eq FZ fm_set1, re2 NZ, .inr ⟨rfl, _, _, l ++ [(c0, tc)], _, (T2, b0, c0), rfl, rfl, hq, hit_yes (by assumption) (by assumption), hnone, by rw [List.map_append, hl]; rfl⟩⟩
      · exact ⟨_, _, _, _, rfl, fr_eq FZ fm_set1, re2 NZ, .inl ⟨rfl, _, _, rfl, rfl, none_snoc hnone hq (hit_no (by assumption) (by assumption))⟩⟩
    · rintro m' nw h tk' ⟨b', c', rfl, rfl, hnone⟩ F8 N8
      have hnone' : ∀ q ∈ row.2, fmHit j md q.2.1 = false := by
        have hsz : (row.2.map fun q => Value.ref q.1).toArray.size = row.2.length := by simp
        rw [hsz, List.take_length] at hnone
        exact hnone
      have hpick := pick_none hnone'
      have hPo : ∀ p ∈ ((e, oe) :: (it, oi') :: news), p.1 ≠ P := hPoff
      clear hIoff hPoff hIoff2 hnone hnone'
      (try clear N7); (try clear F7); (try clear F6); (try clear N6); (try clear N5); (try clear F5); (try clear N4); (try clear F4); (try clear F3); (try clear N3); (try clear F1); (try clear N1)
      k_steps
      all_goals (rename Fr _ _ _ _ => FZ)
      all_goals (rename News _ _ _ _ => NZ)
      · rename_i hj0 _
        have hj0' : j = 0 := by omega
        exact ⟨_, _, _, _, rfl, FZ, re3 NZ, .inl ⟨rfl, _, _, _, _, l ++ [(Str.ofString "?", _)], _, rfl, rfl, by rw [List.map_append, hl, hnx, hpick, if_pos hj0']; rfl, by have := hfi ▸ hj; omega⟩⟩
      · rename_i hj0 _
        have hj0' : j ≠ 0 := by omega
        exact ⟨_, _, _, _, rfl, FZ, re3 NZ, .inl ⟨rfl, _, _, _, _, l ++ [(Str.ofString "-", _)], _, rfl, rfl, by rw [List.map_append, hl, hnx, hpick, if_neg hj0']; rfl, by have := hfi ▸ hj; omega⟩⟩
    · rintro k m' nw h tk' hk ⟨b', c', l', ep', q, rfl, rfl, hq, hh, hnone, hl'⟩ F8 N8
      refine wpAny_execs_nil ?_
      exact ⟨_, _, _, _, rfl, F8, re3 N8, .inl ⟨rfl, _, _, _, _, l', ep', rfl, rfl, by rw [hl', hnx, pick_hit hq hh hnone], by have := hfi ▸ hj; omega⟩⟩
  · rintro m' nw h tk' ⟨idx, tab, b, c, l, ep, rfl, rfl, hl, _⟩ F5 N5
    (try dsimp only)
    k_steps
    have hfi : fmItems.size = 10 := rfl
    rw [hfi] at hl
    refine SC.join (l := l) ⟨_, (N5 _ (.head _)).1, rfl, ep, rfl⟩ hl (fm_joinOk md) ?_
    intro t' k'
    rw [fm_join]
    (try dsimp only)
    k_steps
    all_goals exact hret _ _ _ (by k_asm) (cb_drop (by k_asm) fun p hp => .tail _ hp)
end Mine
end
-- H
section
open PySem PySem.W PyProof.Rows
namespace Mine
local macro_rules | `(tactic| walk_at "no such key") => `(tactic| skip)
local macro_rules | `(tactic| walk_at "no such key") => `(tactic| skip)
local macro_rules | `(tactic| walk_at "no such key") => `(tactic| skip)
local macro_rules | `(tactic| walk_at "no such key") => `(tactic| skip)
local macro_rules | `(tactic| walk_at "no such key") => `(tactic| skip)
local macro_rules | `(tactic| walk_at "no such key") => `(tactic| skip)
local macro_rules | `(tactic| walk_at "no such key") => `(tactic| skip)
local macro_rules | `(tactic| walk_at "no such key") => `(tactic| skip)
local macro_rules | `(tactic| walk_at "no such key") => `(tactic| skip)
local macro_rules | `(tactic| walk_at "no such key") => `(tactic| skip)
local macro_rules | `(tactic| walk_at "no such key") => `(tactic| skip)
local macro_rules | `(tactic| walk_at "no such key") => `(tactic| skip)
local macro_rules | `(tactic| walk_at "no such key") => `(tactic| skip)
local macro_rules | `(tactic| walk_at "no such key") => `(tactic| skip)
local macro_rules | `(tactic| walk_at "no such key") => `(tactic| skip)
local macro_rules | `(tactic| walk_at "no such key") => `(tactic| skip)
local macro_rules | `(tactic| walk_at "no such key") => `(tactic| skip)
local macro_rules | `(tactic| walk_at "no such key") => `(tactic| skip)
local macro_rules | `(tactic| walk_at "no such key") => `(tactic| skip)
local macro_rules | `(tactic| walk_at "no such key") => `(tactic| skip)
local macro_rules | `(tactic| walk_at "no such key") => `(tactic| skip)
local macro_rules | `(tactic| walk_at "no such key") => `(tactic| skip)
local macro_rules | `(tactic| walk_at "no such key") => `(tactic| skip)
local macro_rules | `(tactic| walk_at "no such key") => `(tactic| skip)
local macro_rules | `(tactic| walk_at "no such key") => `(tactic| skip)
local macro_rules | `(tactic| walk_at "no such key") => `(tactic| skip)
local macro_rules | `(tactic| walk_at "no such key") => `(tactic| skip)
local macro_rules | `(tactic| walk_at "no such key") => `(tactic| skip)
local macro_rules | `(tactic| walk_at "no such key") => `(tactic| skip)
local macro_rules | `(tactic| walk_at "no such key") => `(tactic| skip)
theorem fresh_UnH : True := by (w_top off; k_with_none; trivial)
theorem fillU6 : (fun (_ : OpenLaw) (_ : Params → Frag) => True) PySem.Challenge.rw_un0006_01 hd.heap_39 := by (k_fill; trivial)
section
variable {prog : Program} {w : World} {A : Around} {h₀ : Heap} {L : Addr} {m : Str → Option Value} {env : Env} {elt : Expr} {x : Str} {scope : Scope} {cl : List (Str × Addr)} {s : Shared} {S : List (Addr × Obj) → Prop} {P : Nat → Value → Prop} {Fin : List Value → List (Addr × Obj) → Prop} {news : List (Addr × Obj)}
/-- a comprehension, item by item -/
theorem comp_restB {vs : List Value} (G : Value → Value → Prop) (hP : ∀ i v, i < vs.length → P i v → ∃ v', vs[i]? = some v' ∧ ∀ y, G v y → G v' y)
    (turn : ∀ v I oI C oC D m₂ ys h tk (E' : Value → Shared → Prop), (∃ i, i < vs.length ∧ P i v) → LCg.NsObj oC m₂ → m₂ x = some v → Fr h₀ L h m → News h₀ L h ((I, oI) :: (C, oC) :: (D, LCg.lst ys) :: news) → LCg.Off3 I C D news → ((@Ne Nat I C) ∧ (@Ne Nat I D) ∧ (@Ne Nat C D)) →
      wpAny (model prog w) A (eval elt (compEnvC scope cl C env)) (LCg.CompEnd h₀ L m { s with heap := h, toks := tk } I oI C oC D (LCg.lst ys) S (fun y news' => news' = news ∧ G v y)) E' { s with heap := h, toks := tk })
    (fin : ∀ ys, All2 G vs ys → Fin ys news) : LCg.CompRest prog w A h₀ L m env elt x scope cl s S P Fin vs.length 0 [] news := by
  have key : ∀ (j i : Nat) (ys : List Value), i + j = vs.length → All2 G (vs.take i) ys → LCg.CompRest prog w A h₀ L m env elt x scope cl s S P Fin j i ys news := by
    intro j
    induction j with
    | zero =>
      intro i ys hi hy
      have e : i = vs.length := by omega
      subst e
      rw [List.take_length] at hy
      exact LCg.CompRest.zero (fin ys hy)
    | succ j ih =>
      intro i ys hi hy
      refine LCg.CompRest.succ ?_
      intro v I oI C oC D m₂ h tk E' hv hC hx F N off ne
      obtain ⟨v', hv', hG⟩ := hP i v (by omega) hv
      refine wpAny_mono (turn v I oI C oC D m₂ ys h tk E' ⟨i, by omega, hv⟩ hC hx F N off ne) (fun y s₂ hq => ?_) fun _ _ e => e
      obtain ⟨h', tk', nw, e, F', N', off', hS, hn, hy'⟩ := hq
      rw [hn] at N' off' hS
      refine ⟨h', tk', news, e, F', N', off', hS, ?_⟩
      refine ih (i + 1) _ (by omega) ?_
      rw [List.take_add_one, hv']
      exact hy.snoc (hG _ hy')
  exact key vs.length 0 [] (by omega) (by simpa using All2.nil)
end

structure Hold (P : Prop) : Prop where
  out : P
local macro_rules | `(tactic| walk_at "CompSrc") => `(tactic| (k_here; k_dflt (refine Hold.out ?_)))
def rowT (l r d : Int) : Str := Txt.mul (Str.ofString ".") (if d > l then d - l + r else 0) ++ Txt.item (Str.ofString "abcdefghijk") d
def rowsT (l r : Nat) : List Str := (List.range 11).map fun (i : Nat) => rowT (l : Int) (r : Int) (i : Int)
theorem rows_yes {l r d : Int} {t : Tok} (h : l < d) : Value.str (Txt.mul (Str.ofString ".") (d - l + r) ++ Txt.item (Str.ofString "abcdefghijk") d) t = .str (rowT l r d) t := by
  unfold rowT
  rw [if_pos h]
theorem rows_no {l r d : Int} {t : Tok} (h : ¬ l < d) : Value.str (Txt.mul (Str.ofString ".") 0 ++ Txt.item (Str.ofString "abcdefghijk") d) t = .str (rowT l r d) t := by
  unfold rowT
  rw [if_neg h]
theorem rows_all2 {l r : Int} : ∀ {n : List Int} {ys : List Value}, All2 (fun v y => ∀ i t, v = .int i t → ∃ t', y = .str (rowT l r i) t') (n.map fun i => Value.int i 0) ys → ∃ l', ys = strValues l' ∧ l'.map (·.1) = n.map (rowT l r)
  | [], _, .nil => ⟨[], rfl, rfl⟩
  | p :: n, _, .cons (ys := ys) g k => by
    obtain ⟨t', e⟩ := g p 0 rfl
    obtain ⟨l', e', h⟩ := rows_all2 (n := n) k
    subst e e'
    exact ⟨(rowT l r p, t') :: l', rfl, by simp [h]⟩
theorem rows_call {prog : Program} {w : World} {mean : ExcName → Option Value} {mg mb : Str → Option Value} {dp un : Nat} {gd : Option (List Code)} {cn : Str} {cs : Scope} {a : Addr} {ccd : Value} {cl : List (Str × Addr)} {outer : List Env} {A₀ : Around} {base h₀ : Heap} {L : Addr} {m : Str → Option Value} {news : List (Addr × Obj)} {s : Shared} {Q E : Value → Shared → Prop} {lost rest : Nat} {t u : Tok}
    (B : Below A₀ base outer h₀) (F : Fr h₀ L s.heap m) (X : (hd.heap_39 w.params).In h₀) (N : News h₀ L s.heap news) (T : TopU mean mg mb h₀) (hk : cs.kind = .function) (hd : dp + 1 < recursionLimit) (hu : un + 8 < cLine) (hl9 : lost ≤ 9) (hr9 : rest ≤ 9)
    (hret : ∀ D (l : List (Str × Tok)) (h' : Heap) (tk' : Nat), l.map (·.1) = rowsT lost rest → Fr h₀ L h' m → News h₀ L h' ((D, LCg.lst (strValues l)) :: news) → Q (.ref D) { s with heap := h', toks := tk' }) :
    wpAny (model prog w) (ktrTop dp un gd cn cs L a ccd cl outer) (call (.ref 114) [.int lost t, .int rest u]) Q E s := by
  refine wpAny_call ?_
  k_dflt (refine' code_defC ?k1 ?k2 ?k3 ?k4 ?k5 ?kA ?kF ?kK ?k6 ?k7 ?k8 ?k9 ?kB ?kD ?_ ?c2 ?c3 ?c4; (case kA => exact rfl); (case kF => exact rfl); (case kK => assumption); (case k1 => k_asm); (case k2 => k_asm); (case k3 => k_asm); (case k4 => k_asm); (case k5 => k_asm); (case k6 => k_is); (case k7 => k_is); (case k8 => ktr_room); (case k9 => exact BindsTo.of_eq rfl); (case kB => exact rfl); (case kD => decide +kernel); (case c2 => exact rfl); (case c3 => exact rfl); (case c4 => exact rfl); k_whole; intro g' L' h' tk' cells' FG' F' N' Y' B' X' T' l1; (try k_lt l1); k_cells Y'; (try simp only [List.cons_append, List.nil_append] at N'); (try dsimp only); (try k_lift B'); (try k_fold))
  k_steps
  refine Hold.mk ?_
  refine LCg.CompSrc.range (n := 11) (by rfl) (by k_asm) (by k_asm) (by assumption) (by decide) (by decide) (by decide) ?_
  intro g'
  refine comp_restB (vs := ((List.range 11).map fun (i : Nat) => (i : Int)).map fun i => Value.int i 0) (fun v y => ∀ i t, v = .int i t → ∃ t', y = .str (rowT lost rest i) t') ?_ ?_ ?_
  · rintro i v hi ⟨t, rfl⟩
    refine ⟨.int i 0, by have : i < 11 := hi; simp [this], fun y h i' t' e => ?_⟩
    cases e
    obtain ⟨t2, e2⟩ := h _ _ rfl
    exact ⟨t2, by rw [e2, Int.zero_add]⟩
  · intro v I oI C oC D m₂ ys h tk E' hv hC hx F' N' off ne
    obtain ⟨i, hi, t0, rfl⟩ := hv
    have hi : i < 11 := hi
    k_steps
    · refine LCg.CompEnd.intro (by k_asm) (by k_asm) _ (fun p hp => hp) off trivial ⟨rfl, ?_⟩
      intro r' t'' e
      cases e
      exact ⟨_, rows_yes (by assumption)⟩
    · refine LCg.CompEnd.intro (by k_asm) (by k_asm) _ (fun p hp => hp) off trivial ⟨rfl, ?_⟩
      intro r' t'' e
      cases e
      exact ⟨_, rows_no (by first | assumption | omega)⟩
  · intro ys hy D h tk F' N' _
    obtain ⟨l', rfl, hl'⟩ := rows_all2 hy
    (try dsimp only)
    k_steps
    all_goals exact hret _ _ _ _ (by rw [hl', List.map_map]; rfl) (by k_asm) (cb_drop (by k_asm) fun p hp => by
      rcases List.mem_cons.mp hp with rfl | hp
      · exact .head _
      · exact .tail _ (.tail _ (.tail _ hp)))
end Mine
end
-- I
section
open PySem PySem.W PyProof.Rows
namespace Mine
section
variable {prog : Program} {w : World} {A : Around} {E : Value → Shared → Prop} {s : Shared} {R : Result → Shared → Prop}
abbrev two (elt iter iter2 : Expr) (x y : Str) (px py : Pos) (scope : Scope) (pos : Pos) : Expr := .ListComp elt [⟨.Name x px, iter, [], 0⟩, ⟨.Name y py, iter2, [], 0⟩] scope pos
theorem two_turn0 (elt iter iter2 : Expr) (x y : Str) (px py : Pos) (scope : Scope) (pos : Pos) (it acc : Value) (env : Env) :
    compTurn (two elt iter iter2 x y px py scope pos) 0 it acc env = (standAt iter.pos >>= fun _ => pyNext it >>= fun r => match r with
      | none => pure (.done .next)
      | some v => letOwnedTupleGo (.Name x px) it v >>= fun _ => assign (.Name x px) env v >>= fun _ =>
        eval iter2 env >>= fun xv => standAt iter2.pos >>= fun _ => foldedSetIterable iter2 env xv >>= fun xv =>
          holding [xv] (pyIter xv) >>= fun it2 => runOwn (.compStart (two elt iter iter2 x y px py scope pos) 1 it2 acc env) env >>= fun _ =>
            again (.compLoop (two elt iter iter2 x y px py scope pos) 0 it acc env)) := by rfl
theorem two_turn1 (elt iter iter2 : Expr) (x y : Str) (px py : Pos) (scope : Scope) (pos : Pos) (it acc : Value) (env : Env) :
    compTurn (two elt iter iter2 x y px py scope pos) 1 it acc env = (standAt iter2.pos >>= fun _ => pyNext it >>= fun r => match r with
      | none => pure (.done .next)
      | some v => letOwnedTupleGo (.Name y py) it v >>= fun _ => assign (.Name y py) env v >>= fun _ =>
        (eval elt env >>= fun x => call (.builtin "list.append") [acc, x] >>= fun _ => pure ()) >>= fun _ =>
          again (.compLoop (two elt iter iter2 x y px py scope pos) 1 it acc env)) := by rfl
theorem two_loop0 {elt iter iter2 : Expr} {x y : Str} {px py : Pos} {scope : Scope} {pos : Pos} {it acc : Value} {env : Env} (I : Nat → Shared → Prop)
    (turn : ∀ n s, I n s → wpAny (model prog w) A (pyNext it) (fun r s₁ => match r with
      | none => R (.ok .next) s₁
      | some v => wpAny (model prog w) A (assign (.Name x px) env v) (fun _ s₂ => wpAny (model prog w) A (eval iter2 env) (fun xv s₃ =>
          wpAny (model prog w) A (pyIter xv) (fun it2 s₄ => codeAny (model prog w) A (.compStart (two elt iter iter2 x y px py scope pos) 1 it2 acc env) (fun r s₅ => match r with
              | .ok _ => ∃ m, m < n ∧ I m s₅
              | .error e => cameBackBy (model prog w) A env (notedBy (model prog w) A env fun e s' => R (.error e) s') e s₅) s₄) (notedBy (model prog w) A env fun e s' => R (.error e) s') s₃)
          (notedBy (model prog w) A env fun e s' => R (.error e) s') s₂) (notedBy (model prog w) A env fun e s' => R (.error e) s') s₁) (notedBy (model prog w) A env fun e s' => R (.error e) s') s)
    (n : Nat) (h : I n s) (hs : ∀ x, foldedSetIterable iter2 env x = pure x) :
    codeAny (model prog w) A (.compLoop (two elt iter iter2 x y px py scope pos) 0 it acc env) R s := by
  refine codeAny_loop rfl I (fun n s hI => ?_) n h
  show wpAny _ A ((compTurn (two elt iter iter2 x y px py scope pos) 0 it acc env).onRaise (fun x => do noteFrame x env; theTreesLotGoes x)) _ _ s
  refine wpAny_noted ?_
  rw [two_turn0]
  refine wpAny_bind (wpAny_standAt (wpAny_bind (wpAny_mono (turn n s hI) (fun r s₁ h₁ => ?_) fun _ _ h' => h')))
  cases r with
  | none => exact wpAny_pure h₁
  | some v =>
    refine wpAny_bind (wpAny_of_eq rfl ?_)
    refine wpAny_bind (wpAny_mono h₁ (fun _ s₂ h₂ => ?_) fun _ _ h' => h')
    refine wpAny_bind (wpAny_mono h₂ (fun xv s₃ h₃ => ?_) fun _ _ h' => h')
    refine wpAny_bind (wpAny_standAt (wpAny_bind (wpAny_of_eq (hs xv) ?_)))
    refine wpAny_bind (wpAny_holding (wpAny_mono h₃ (fun it2 s₄ h₄ => ?_) fun _ _ h' => h'))
    refine wpAny_bind (wpAny_runOwn (codeAny_mono h₄ fun r s₅ h₅ => ?_))
    cases r with
    | ok f => exact wpAny_pure ⟨rfl, h₅⟩
    | error e => exact h₅
theorem two_loop1 {elt iter iter2 : Expr} {x y : Str} {px py : Pos} {scope : Scope} {pos : Pos} {it acc : Value} {env : Env} (I : Nat → Shared → Prop)
    (turn : ∀ n s, I n s → wpAny (model prog w) A (pyNext it) (fun r s₁ => match r with
      | none => R (.ok .next) s₁
      | some v => wpAny (model prog w) A (assign (.Name y py) env v) (fun _ s₂ => wpAny (model prog w) A (eval elt env) (fun x s₃ =>
          wpAny (model prog w) A (call (.builtin "list.append") [acc, x]) (fun _ s₄ => ∃ m, m < n ∧ I m s₄) (notedBy (model prog w) A env fun e s' => R (.error e) s') s₃)
          (notedBy (model prog w) A env fun e s' => R (.error e) s') s₂) (notedBy (model prog w) A env fun e s' => R (.error e) s') s₁) (notedBy (model prog w) A env fun e s' => R (.error e) s') s)
    (n : Nat) (h : I n s) :
    codeAny (model prog w) A (.compLoop (two elt iter iter2 x y px py scope pos) 1 it acc env) R s := by
  refine codeAny_loop rfl I (fun n s hI => ?_) n h
  show wpAny _ A ((compTurn (two elt iter iter2 x y px py scope pos) 1 it acc env).onRaise (fun x => do noteFrame x env; theTreesLotGoes x)) _ _ s
  refine wpAny_noted ?_
  rw [two_turn1]
  refine wpAny_bind (wpAny_standAt (wpAny_bind (wpAny_mono (turn n s hI) (fun r s₁ h₁ => ?_) fun _ _ h' => h')))
  cases r with
  | none => exact wpAny_pure h₁
  | some v =>
    refine wpAny_bind (wpAny_of_eq rfl ?_)
    exact wpAny_bind (wpAny_mono h₁ (fun _ s₂ h₂ => wpAny_bind (wpAny_bind (wpAny_mono h₂ (fun x s₃ h₃ => wpAny_bind (wpAny_mono h₃
      (fun _ s₄ h₄ => wpAny_pure (wpAny_pure ⟨rfl, h₄⟩)) fun _ _ h' => h')) fun _ _ h' => h'))) fun _ _ h' => h')
theorem two_start (d : Nat) {elt iter iter2 : Expr} {x y : Str} {px py : Pos} {scope : Scope} {pos : Pos} {it acc : Value} {env : Env} (hd : d = 0 ∨ d = 1)
    (h0 : codeAny (model prog w) A (.compLoop (two elt iter iter2 x y px py scope pos) d it acc env) R s)
    (h : wpAny (model prog w) A (pyIter it) (fun it' s' => codeAny (model prog w) A (.compLoop (two elt iter iter2 x y px py scope pos) d it' acc env) R s')
      (notedBy (model prog w) A env fun x s' => R (.error x) s') s) :
    codeAny (model prog w) A (.compStart (two elt iter iter2 x y px py scope pos) d it acc env) R s := by
  refine codeAny_of_tree ?_
  show wpAny _ _ ((compStart (two elt iter iter2 x y px py scope pos) d it acc env).onRaise (fun x => do noteFrame x env; standAt theWindowsPlace)) _ _ s
  refine wpAny_notedAt ?_
  unfold compStart
  rcases hd with rfl | rfl
  · show wpAny _ _ (ask >>= _) _ _ s
    refine wpAny_bind (wpAny_askSetting (wpAny_ite ?_))
    split
    · first
        | exact wpAny_bind (wpAny_pure (wpAny_pure (And.intro rfl h0)))
        | exact wpAny_pure (And.intro rfl h0)
    · (refine wpAny_bind (wpAny_rule ?_); show wpAny _ _ (standAt iter.pos >>= _) _ _ s; exact wpAny_bind (wpAny_standAt (wpAny_bind (wpAny_mono h (fun it' s' h' => wpAny_pure (And.intro rfl h')) fun _ _ x => x))))
  · show wpAny _ _ (ask >>= _) _ _ s
    refine wpAny_bind (wpAny_askSetting (wpAny_ite ?_))
    split
    · first
        | exact wpAny_bind (wpAny_pure (wpAny_pure (And.intro rfl h0)))
        | exact wpAny_pure (And.intro rfl h0)
    · (refine wpAny_bind (wpAny_rule ?_); show wpAny _ _ (standAt iter2.pos >>= _) _ _ s; exact wpAny_bind (wpAny_standAt (wpAny_bind (wpAny_mono h (fun it' s' h' => wpAny_pure (And.intro rfl h')) fun _ _ x => x))))
end

def REnd (h₀ : Heap) (L : Addr) (m : Str → Option Value) (s : Shared) (n : Nat) (news : List (Addr × Obj)) (y : Value) (s₂ : Shared) : Prop :=
  ∃ (r : Addr) (h' : Heap) (tk' : Nat) (t u v : Tok), y = .ref r ∧ s₂ = { s with heap := h', toks := tk' } ∧ Fr h₀ L h' m ∧ News h₀ L h' news ∧ IsRange h' r 0 n 1 t u v
theorem news_same {g h h' : Heap} {L b : Addr} {nw : List (Addr × Obj)} (N : News g L h nw) (hs : Heap.SameBut b h h') (off : ∀ p ∈ nw, p.1 ≠ b) : News g L h' nw :=
  fun p hp => ⟨hs.extBut _ _ (off p hp) (N p hp).1, (N p hp).2⟩
section
open LCg
variable {prog : Program} {w : World} {A : Around} {E : Value → Shared → Prop} {h₀ : Heap} {L : Addr} {m : Str → Option Value} {env : Env}
theorem block2 {elt iter iter2 : Expr} {x y : Str} {px py : Pos} {scope : Scope} {cl : List (Str × Addr)} {pos : Pos} {s₂ : Shared} {I ax : Addr} {its : List Value} {n2 k : Nat} {news : List (Addr × Obj)} {f : Value → Nat → Str}
    {RR : Value → Addr → Result → Shared → Prop} (hh : A.handled = none) (hxy : x ≠ y) (hn : its.length ≤ 1000) (hn2 : n2 ≤ 1000)
    (hsm : Builtin.Range.small 0 n2 1 = true) (hrs : Builtin.Range.rangeSize 0 n2 1 = (n2 : Int))
    (hcell : ∀ y ∈ scope.names, y.2 ≠ .cell) (hkind : scope.kind = .function) (hx : scope.names.lookup x = some .local) (hy : scope.names.lookup y = some .local)
    (hfs : ∀ (e : Env) v, foldedSetIterable iter2 e v = pure v)
    (hI : s₂.heap.IsListIter I ax 0) (haI : ax ≠ I)
    (F : Fr h₀ L s₂.heap m) (N : News h₀ L s₂.heap news) (hm : (ax, ({ cls := .type "list", data := .seq its.toArray k } : Obj)) ∈ news) (hIL : L ≠ I) (hI₀ : h₀.get? I = none) (off : ∀ p ∈ news, p.1 ≠ I)
    (turnI : ∀ v I oI C oC D m₂ ys h tk (E' : Value → Shared → Prop), v ∈ its → NsObj oC m₂ → m₂ x = some v → Fr h₀ L h m → News h₀ L h ((I, oI) :: (C, oC) :: (D, lst ys) :: news) →
      wpAny (model prog w) A (eval iter2 (compEnvC scope cl C env)) (REnd h₀ L m { s₂ with heap := h, toks := tk } n2 ((I, oI) :: (C, oC) :: (D, lst ys) :: news)) E' { s₂ with heap := h, toks := tk })
    (turnE : ∀ v (i : Nat) t J oJ I oI C oC D m₂ ys h tk (E' : Value → Shared → Prop), v ∈ its → i < n2 → NsObj oC m₂ → m₂ x = some v → m₂ y = some (.int i t) → Fr h₀ L h m → News h₀ L h ((J, oJ) :: (I, oI) :: (C, oC) :: (D, lst ys) :: news) →
      wpAny (model prog w) A (eval elt (compEnvC scope cl C env)) (TEnd h₀ L m { s₂ with heap := h, toks := tk } (f v i) ((J, oJ) :: (I, oI) :: (C, oC) :: (D, lst ys) :: news)) E' { s₂ with heap := h, toks := tk })
    (hRR : ∀ D C h tk m' l, Fr h₀ L h m → News h₀ L h ((D, lst (strValues l)) :: news) → h.Ns C m' → h₀.get? C = none → h₀.get? D = none → C ≠ L → D ≠ L → C ≠ D → (∀ p ∈ news, p.1 ≠ C) → l.map (·.1) = its.flatMap (fun v => (List.range n2).map (f v)) → RR (.ref D) C (.ok .next) { s₂ with heap := h, toks := tk }) :
    wpAny (model prog w) A (newList []) (fun acc s₃ => wpAny (model prog w) A (newFunctionEnv scope env.globals cl [] env.qual none .none (some env)) (fun cenv s₄ =>
      codeAny (model prog w) A (.compStart (two elt iter iter2 x y px py scope pos) 0 (.ref I) acc { cenv with scope := relabel scope env }) (RR acc cenv.locals) s₄) E s₃) E s₂ := by
  refine wpAny_newObj_type (wpAny_newFunctionEnv hcell (by intro y hy; simp at hy) (fun h₁ hns₁ hsb₁ => ?_) hkind)
  dsimp only at hns₁ hsb₁ ⊢
  generalize hH2 : s₂.heap.push { cls := .type "list", dict := none, data := .seq ([] : List Value).toArray } = H2 at hns₁ hsb₁ ⊢
  have hC : H2.objs.size = s₂.heap.objs.size + 1 := by rw [← hH2, Heap.size_push]
  have hDC : s₂.heap.objs.size ≠ H2.objs.size := by rw [hC]; exact Nat.ne_of_lt (Nat.lt_succ_self _)
  have below : ∀ b, b < s₂.heap.objs.size → b ≠ H2.objs.size ∧ b ≠ s₂.heap.objs.size := fun b hb => ⟨by rw [hC]; exact Nat.ne_of_lt (Nat.lt_succ_of_lt hb), Nat.ne_of_lt hb⟩
  have hIlt : I < s₂.heap.objs.size := by obtain ⟨_, e, _⟩ := hI; exact Heap.lt_size e
  have old : ∀ b o, s₂.heap.get? b = some o → h₁.get? b = some o := fun b o e => hsb₁.extBut b o (below b (Heap.lt_size e)).1 (Heap.get?_push_of_some _ (hH2 ▸ Heap.get?_push_of_some _ e))
  have hacc : h₁.get? s₂.heap.objs.size = some (lst []) := hsb₁.extBut _ _ hDC (Heap.get?_push_of_some _ (hH2 ▸ Heap.get?_push_size _ rfl))
  have fresh : ∀ a, s₂.heap.objs.size ≤ a → s₂.heap.get? a = none := fun a ha => by
    cases e : s₂.heap.get? a with
    | none => rfl
    | some o' => exact absurd (Heap.lt_size e) (Nat.not_lt.mpr ha)
  have fresh₀ : ∀ a, s₂.heap.objs.size ≤ a → h₀.get? a = none := fun a ha => by
    cases e : h₀.get? a with
    | none => rfl
    | some o' => have := F.keep a o' e; rw [fresh a ha] at this; cases this
  have hD₀ : h₀.get? s₂.heap.objs.size = none := fresh₀ _ (Nat.le_refl _)
  have hC₀ : h₀.get? H2.objs.size = none := fresh₀ _ (by rw [hC]; exact Nat.le_succ _)
  have hLlt : L < s₂.heap.objs.size := F.ns.lt
  have hDL : s₂.heap.objs.size ≠ L := Ne.symm (below L hLlt).2
  have hCL : H2.objs.size ≠ L := Ne.symm (below L hLlt).1
  have hCI : I ≠ H2.objs.size := (below I hIlt).1
  have hDI : I ≠ s₂.heap.objs.size := (below I hIlt).2
  have offC : ∀ p ∈ news, p.1 ≠ H2.objs.size := fun p hp => (below _ (Heap.lt_size (N p hp).1)).1
  have offD : ∀ p ∈ news, p.1 ≠ s₂.heap.objs.size := fun p hp => (below _ (Heap.lt_size (N p hp).1)).2
  have hsl : sizeLine = 16777216 := by decide
  have hI₁ : h₁.IsListIter I ax 0 := hI.at fun o e => old _ _ e
  have N₁ : News h₀ L h₁ ((s₂.heap.objs.size, lst (strValues [])) :: news) := fun p hp => by
    rcases List.mem_cons.mp hp with rfl | hp
    · exact ⟨hacc, hDL, hD₀⟩
    · exact ⟨old _ _ (N p hp).1, (N p hp).2⟩
  have W := Walks.list (prog := prog) (w := w) hh I ax haI its.toArray
  have hsz : its.toArray.size = its.length := by simp
  have isl : ∀ {h : Heap} {z : List (Addr × Obj)}, News h₀ L h z → (∀ p ∈ news, p ∈ z) → h.IsList ax its.toArray := fun N' sub => ⟨_, (N' _ (sub _ hm)).1, rfl, _, rfl⟩
  generalize s₂.heap.objs.size = D at *
  generalize H2.objs.size = C at *
  have loop : ∀ s₃ : Shared, s₃ = { s₂ with heap := h₁, toks := s₂.toks + ([] : List (Str × Value)).length } →
      codeAny (model prog w) A (.compLoop (two elt iter iter2 x y px py scope pos) 0 (.ref I) (.ref D) (compEnvC scope cl C env))
        (RR (.ref D) C) s₃ := by
    rintro s₃ rfl
    refine two_loop0
      (fun kk s' => ∃ h' tk i l m', s' = { s₂ with heap := h', toks := tk } ∧ i ≤ its.length ∧ kk = its.length + 1 - i ∧ h'.IsListIter I ax i ∧ Fr h₀ L h' m ∧ h'.Ns C m' ∧ News h₀ L h' ((D, lst (strValues l)) :: news) ∧
        l.length = i * n2 ∧ l.map (·.1) = (its.take i).flatMap (fun v => (List.range n2).map (f v))) ?_ (its.length + 1)
      ⟨h₁, _, 0, [], _, rfl, Nat.zero_le _, rfl, hI₁, F.keeps old, hns₁, N₁, by simp, by simp⟩ (hfs _)
    rintro kk s' ⟨h', tk, i, l, m', rfl, hi, rfl, hI', F', hn', N', hlen, hl⟩
    by_cases hlt : i < its.length
    · refine W.item i _ _ _ (by rw [hsz]; exact hlt) ⟨hI', isl N' fun p hp => .tail _ hp⟩ fun v h₂ tk₂ hPv hst₂ hk₂ => ?_
      have hvi : its[i]? = some v := by simpa using hPv
      have hvm : v ∈ its := List.mem_of_getElem? hvi
      refine wpAny_assign_Name (wpAny_storeName_local (lookup_relabel_local hx) (hn'.at' fun o e => hk₂ _ o (by simpa using Ne.symm hCI) e) (fun h₃ hn₃ hs₃ => ?_) (by simp [compEnvC, relabel, hkind]))
      obtain ⟨oI, heI, hoI⟩ := hst₂.1
      have heI₃ : h₃.get? I = some oI := hs₃.extBut _ _ hCI heI
      obtain ⟨oC, heC, hoC⟩ := ns_obj hn₃
      have F₃ : Fr h₀ L h₃ m := (fr_but F' hk₂ hIL hI₀).change hs₃ hCL hC₀
      have N₂ : News h₀ L h₂ ((D, lst (strValues l)) :: news) := news_but N' hk₂ fun p hp => by
        rcases List.mem_cons.mp hp with rfl | hp
        · exact Ne.symm hDI
        · exact off p hp
      have N₃ : News h₀ L h₃ ((I, oI) :: (C, oC) :: (D, lst (strValues l)) :: news) := fun p hp => by
        rcases List.mem_cons.mp hp with rfl | hp
        · exact ⟨heI₃, Ne.symm hIL, hI₀⟩
        · rcases List.mem_cons.mp hp with rfl | hp
          · exact ⟨heC, hCL, hC₀⟩
          · refine news_same N₂ hs₃ ?_ p hp
            intro p hp
            rcases List.mem_cons.mp hp with rfl | hp
            · exact hDC
            · exact offC p hp
      refine wpAny_mono (turnI v I oI C oC D _ _ h₃ _ _ hvm hoC (by simp) F₃ N₃) (fun xv s₄ h₄ => ?_) fun _ _ e => e
      obtain ⟨r, h₄, tk₄, t, u, v2, rfl, rfl, F₄, N₄, hr⟩ := h₄
      refine wpAny_pyIter_range hr hsm ?_
      rw [hrs]
      (try dsimp only)
      have hJ4 : ∀ p ∈ ((I, oI) :: (C, oC) :: (D, lst (strValues l)) :: news), p.1 ≠ h₄.objs.size := fun p hp => Nat.ne_of_lt (Heap.lt_size (N₄ p hp).1)
      have hJL : L ≠ h₄.objs.size := Nat.ne_of_lt F₄.ns.lt
      have hJ₀ := (new_none F₄ (Nat.le_refl _)).1
      have F₅ := F₄.push { cls := .type "range_iterator", data := .fields #[rawInt 0, rawInt n2, rawInt 1] }
      have N₅ := N₄.push F₄ { cls := .type "range_iterator", data := .fields #[rawInt 0, rawInt n2, rawInt 1] }
      have hJi : IsRangeIter (h₄.push { cls := .type "range_iterator", data := .fields #[rawInt 0, rawInt n2, rawInt 1] }) h₄.objs.size (0 + ((0 : Nat) : Int) * 1) ((n2 : Int) - ((0 : Nat) : Int)) 1 := by
        show Heap.get? _ _ = _
        simpa using Heap.get?_push_size _ rfl
      generalize h₄.push { cls := .type "range_iterator", data := .fields #[rawInt 0, rawInt n2, rawInt 1] } = h₅ at F₅ N₅ hJi ⊢
      generalize h₄.objs.size = J at *
      have WJ := range_walks (prog := prog) (w := w) (I := J) hh 0 n2
      have hJI : I ≠ J := hJ4 (I, oI) (.head _)
      have hJC : C ≠ J := hJ4 (C, oC) (.tail _ (.head _))
      have hJD : D ≠ J := hJ4 (D, lst (strValues l)) (.tail _ (.tail _ (.head _)))
      have offJ : ∀ p ∈ news, p.1 ≠ J := fun p hp => hJ4 p (.tail _ (.tail _ (.tail _ hp)))
      have hn₅ : h₅.Ns C _ := hoC.ns (N₅ (C, oC) (.tail _ (.tail _ (.head _)))).1
      have loop1 : ∀ tk₆, codeAny (model prog w) A (.compLoop (two elt iter iter2 x y px py scope pos) 1 (.ref J) (.ref D) (compEnvC scope cl C env)) (fun r s₅ => match r with
              | .ok _ => ∃ mm, mm < its.length + 1 - i ∧ ∃ h' tk i l m', s₅ = { s₂ with heap := h', toks := tk } ∧ i ≤ its.length ∧ mm = its.length + 1 - i ∧ h'.IsListIter I ax i ∧ Fr h₀ L h' m ∧ h'.Ns C m' ∧ News h₀ L h' ((D, lst (strValues l)) :: news) ∧
                l.length = i * n2 ∧ l.map (·.1) = (its.take i).flatMap (fun v => (List.range n2).map (f v))
              | .error e => cameBackBy (model prog w) A (compEnvC scope cl C env) (notedBy (model prog w) A (compEnvC scope cl C env) fun e s' => RR (.ref D) C (.error e) s') e s₅) { s₂ with heap := h₅, toks := tk₆ } := by
        intro tk₆
        refine two_loop1
          (fun kk s' => ∃ h' tk j l' m' oJ, s' = { s₂ with heap := h', toks := tk } ∧ j ≤ n2 ∧ kk = n2 + 1 - j ∧ IsRangeIter h' J (0 + (j : Nat) * 1) ((n2 : Int) - (j : Nat)) 1 ∧ Fr h₀ L h' m ∧ h'.Ns C m' ∧ m' x = some v ∧
            News h₀ L h' ((J, oJ) :: (I, oI) :: (D, lst (strValues l')) :: news) ∧
            l'.length = i * n2 + j ∧ l'.map (·.1) = (its.take i).flatMap (fun v => (List.range n2).map (f v)) ++ (List.range j).map (f v)) ?_ (n2 + 1)
          ⟨h₅, _, 0, l, _, { cls := .type "range_iterator", data := .fields #[rawInt 0, rawInt n2, rawInt 1] }, rfl, Nat.zero_le _, rfl, hJi, F₅, hn₅, by simp, fun p hp => N₅ p (by simp only [List.mem_cons] at hp ⊢; rcases hp with h | h | h | h <;> simp [h]), by simpa using hlen, by simpa using hl⟩
        rintro kk s' ⟨h', tk, j, l', m', oJ, rfl, hj, rfl, hJ', F', hn', hmx, N', hlen', hl'⟩
        by_cases hlt2 : j < n2
        · refine WJ.item j _ _ _ hlt2 hJ' fun vj h₂ tk₂ hPv hst₂ hk₂ => ?_
          obtain ⟨tj, rfl⟩ := hPv
          rw [Int.zero_add]
          refine wpAny_assign_Name (wpAny_storeName_local (lookup_relabel_local hy) (hn'.at' fun o e => hk₂ _ o (by simpa using hJC) e) (fun h₃ hn₃ hs₃ => ?_) (by simp [compEnvC, relabel, hkind]))
          obtain ⟨oJ2, heJ⟩ : ∃ o, h₂.get? J = some o := ⟨_, hst₂⟩
          have hoJ2 : some oJ2 = _ := heJ.symm.trans hst₂
          have heJ₃ := hs₃.extBut _ _ (Ne.symm hJC) heJ
          obtain ⟨oC, heC, hoC⟩ := ns_obj hn₃
          have F₃ : Fr h₀ L h₃ m := (fr_but F' hk₂ hJL hJ₀).change hs₃ hCL hC₀
          have N₂ : News h₀ L h₂ ((I, oI) :: (D, lst (strValues l')) :: news) := news_but (fun p hp => N' p (.tail _ hp)) hk₂ fun p hp => by
            rcases List.mem_cons.mp hp with rfl | hp
            · exact hJI
            · rcases List.mem_cons.mp hp with rfl | hp
              · exact hJD
              · exact offJ p hp
          have N₂' : News h₀ L h₃ ((I, oI) :: (D, lst (strValues l')) :: news) := news_same N₂ hs₃ fun p hp => by
            rcases List.mem_cons.mp hp with rfl | hp
            · exact hCI
            · rcases List.mem_cons.mp hp with rfl | hp
              · exact hDC
              · exact offC p hp
          have N₃ : News h₀ L h₃ ((J, oJ2) :: (I, oI) :: (C, oC) :: (D, lst (strValues l')) :: news) := fun p hp => by
            rcases List.mem_cons.mp hp with rfl | hp
            · exact ⟨heJ₃, Ne.symm hJL, hJ₀⟩
            · rcases List.mem_cons.mp hp with rfl | hp
              · exact N₂' _ (.head _)
              · rcases List.mem_cons.mp hp with rfl | hp
                · exact ⟨heC, hCL, hC₀⟩
                · exact N₂' p (.tail _ hp)
          refine wpAny_mono (turnE v j tj J oJ2 I oI C oC D _ _ h₃ _ _ hvm hlt2 hoC (by simp [hxy, hmx]) (by simp) F₃ N₃) (fun yv s₄ h₄ => ?_) fun _ _ e => e
          obtain ⟨h₄, tk₄, t', rfl, rfl, F₄, N₄⟩ := h₄
          have zD := (N₄ (D, lst (strValues l')) (.tail _ (.tail _ (.tail _ (.head _))))).1
          have zC := (N₄ (C, oC) (.tail _ (.tail _ (.head _)))).1
          have zJ := (N₄ (J, oJ2) (.head _)).1
          have hb : l'.length ≤ 1000000 := by
            have : i * n2 ≤ 1000 * 1000 := Nat.mul_le_mul (by omega) hn2
            have : i * n2 ≤ 999 * 1000 := Nat.mul_le_mul (by omega) hn2
            omega
          refine append_at (hsz := by rw [List.size_toArray]; simp only [strValues, List.length_map]; omega) zD fun h₅ hs₅ hD₅ => ?_
          refine ⟨n2 + 1 - (j + 1), by omega, h₅, tk₄, j + 1, l' ++ [(f v j, t')], _, oJ2, rfl, hlt2, rfl, ?_, F₄.change hs₅ hDL hD₀, (hoC.ns zC).sameBut hs₅ (Ne.symm hDC), by simp [hxy, hmx], ?_, by simp [hlen']; omega, ?_⟩
          · exact (hs₅.extBut _ _ (Ne.symm hJD) zJ).trans hoJ2
          · intro p hp
            rcases List.mem_cons.mp hp with rfl | hp
            · exact ⟨hs₅.extBut _ _ (Ne.symm hJD) zJ, Ne.symm hJL, hJ₀⟩
            · rcases List.mem_cons.mp hp with rfl | hp
              · exact ⟨hs₅.extBut _ _ hDI (N₄ (I, oI) (.tail _ (.head _))).1, Ne.symm hIL, hI₀⟩
              · rcases List.mem_cons.mp hp with rfl | hp
                · refine ⟨hD₅.trans (congrArg some ?_), hDL, hD₀⟩
                  rw [lst_snoc]
                  simp [strValues]
                · exact ⟨hs₅.extBut _ _ (offD p hp) (N₄ p (.tail _ (.tail _ (.tail _ (.tail _ hp))))).1, (N₄ p (.tail _ (.tail _ (.tail _ (.tail _ hp))))).2⟩
          · rw [List.map_append, hl', List.range_succ, List.map_append, List.append_assoc]
            rfl
        · obtain rfl : j = n2 := Nat.le_antisymm hj (Nat.not_lt.mp hlt2)
          refine WJ.done _ _ _ hJ' fun h₂ tk₂ hk₂ => ?_
          refine ⟨its.length + 1 - (i + 1), by omega, h₂, tk₂, i + 1, l', m', rfl, hlt, rfl, ?_, fr_but F' hk₂ hJL hJ₀, hn'.at' fun o e => hk₂ _ o (by simpa using hJC) e, ?_, by rw [hlen', Nat.succ_mul], ?_⟩
          · exact ⟨oI, hk₂ _ _ (by simpa using hJI) (N' (I, oI) (.tail _ (.head _))).1, hoI⟩
          · refine news_but (fun p hp => N' p (.tail _ (.tail _ hp))) hk₂ fun p hp => ?_
            rcases List.mem_cons.mp hp with rfl | hp
            · exact hJD
            · exact offJ p hp
          · rw [hl', List.take_add_one, hvi]
            simp
      exact two_start 1 (.inr rfl) (loop1 _) (wpAny_pyIter_rangeiter hJi (loop1 _))
    · obtain rfl : i = its.length := Nat.le_antisymm hi (Nat.not_lt.mp hlt)
      refine W.done _ _ _ ⟨by rw [hsz]; exact hI', isl N' fun p hp => .tail _ hp⟩ fun h₂ tk₂ hk₂ => ?_
      rw [List.take_length] at hl
      refine hRR D C h₂ tk₂ m' l (fr_but F' hk₂ hIL hI₀) (news_but N' hk₂ fun p hp => ?_) (hn'.at' fun o e => hk₂ _ o (by simpa using Ne.symm hCI) e) hC₀ hD₀ hCL hDL (Ne.symm hDC) offC hl
      rcases List.mem_cons.mp hp with rfl | hp
      · exact Ne.symm hDI
      · exact off p hp
  exact two_start 0 (.inl rfl) (loop _ rfl) (W.self 0 _ _ _ ⟨hI₁, isl N₁ fun p hp => .tail _ hp⟩ (loop _ rfl))

theorem ListComp_two {elt iter iter2 : Expr} {x y : Str} {px py : Pos} {scope : Scope} {cl : List (Str × Addr)} {pos : Pos} {s : Shared} {Q : Value → Shared → Prop} {its : List Value} {n2 k : Nat} {news : List (Addr × Obj)} {f : Value → Nat → Str} {ax : Addr}
    (hh : A.handled = none) (hxy : x ≠ y) (hn : its.length ≤ 1000) (hn2 : n2 ≤ 1000)
    (hsm : Builtin.Range.small 0 n2 1 = true) (hrs : Builtin.Range.rangeSize 0 n2 1 = (n2 : Int))
    (hclos : closureFor scope env = pure cl) (hcell : ∀ y ∈ scope.names, y.2 ≠ .cell) (hkind : scope.kind = .function)
    (hnames : ∀ y ∈ scope.names, y.2 = .local → scope.names.lookup y.1 = some .local) (hx : scope.names.lookup x = some .local) (hy : scope.names.lookup y = some .local)
    (hfs : ∀ (e : Env) v, foldedSetIterable iter2 e v = pure v) (hs : ∀ x, foldedSetIterable iter env x = pure x)
    (F : Fr h₀ L s.heap m) (N : News h₀ L s.heap news) (hm : (ax, ({ cls := .type "list", data := .seq its.toArray k } : Obj)) ∈ news)
    (hi : wpAny (model prog w) A (eval iter env) (fun v s₁ => v = .ref ax ∧ s₁ = s) E s)
    (turnI : ∀ v I oI C oC D m₂ ys h tk (E' : Value → Shared → Prop), v ∈ its → NsObj oC m₂ → m₂ x = some v → Fr h₀ L h m → News h₀ L h ((I, oI) :: (C, oC) :: (D, lst ys) :: news) →
      wpAny (model prog w) A (eval iter2 (compEnvC scope cl C env)) (REnd h₀ L m { s with heap := h, toks := tk } n2 ((I, oI) :: (C, oC) :: (D, lst ys) :: news)) E' { s with heap := h, toks := tk })
    (turnE : ∀ v (i : Nat) t J oJ I oI C oC D m₂ ys h tk (E' : Value → Shared → Prop), v ∈ its → i < n2 → NsObj oC m₂ → m₂ x = some v → m₂ y = some (.int i t) → Fr h₀ L h m → News h₀ L h ((J, oJ) :: (I, oI) :: (C, oC) :: (D, lst ys) :: news) →
      wpAny (model prog w) A (eval elt (compEnvC scope cl C env)) (TEnd h₀ L m { s with heap := h, toks := tk } (f v i) ((J, oJ) :: (I, oI) :: (C, oC) :: (D, lst ys) :: news)) E' { s with heap := h, toks := tk })
    (fin : ∀ D h tk l, l.map (·.1) = its.flatMap (fun v => (List.range n2).map (f v)) → Fr h₀ L h m → News h₀ L h ((D, lst (strValues l)) :: news) → Q (.ref D) { s with heap := h, toks := tk }) :
    wpAny (model prog w) A (eval (two elt iter iter2 x y px py scope pos) env) Q E s := by
  rw [eval_ListComp]
  refine wpAny_comprehension_free (use := none) rfl hs hclos hkind hnames (wpAny_mono hi (fun xv s₁ h₁ => ?_) fun _ _ e => e)
  obtain ⟨rfl, rfl⟩ := h₁
  have hl : s₁.heap.IsList ax its.toArray := ⟨_, (N _ hm).1, rfl, _, rfl⟩
  have hlt : ax < s₁.heap.objs.size := by obtain ⟨_, e, _⟩ := hl; exact Heap.lt_size e
  refine wpAny_pyIter_list hl ?_
  have up : ∀ b o, s₁.heap.get? b = some o → (s₁.heap.push { cls := .type "list_iterator", data := .fields #[.ref ax, .int 0 0] }).get? b = some o := fun b o e => Heap.get?_push_of_some _ e
  refine block2 (news := news) (f := f) (its := its) hh hxy hn hn2 hsm hrs hcell hkind hx hy hfs ⟨_, Heap.get?_push_size _ rfl, rfl, rfl⟩ (Nat.ne_of_lt hlt) (F.keeps up) (N.grown up) hm (Nat.ne_of_lt F.ns.lt) (next_is_new F) (fun p hp => Nat.ne_of_lt (Heap.lt_size (N p hp).1)) ?_ ?_ ?_
  · intro v I oI C oC D m₂ ys h tk E' a b c d e
    exact turnI v I oI C oC D m₂ ys h tk E' a b c d e
  · intro v i t J oJ I oI C oC D m₂ ys h tk E' a b c d e f g
    exact turnE v i t J oJ I oI C oC D m₂ ys h tk E' a b c d e f g
  · intro D C h tk m' l F' N' hn hC₀ hD₀ hCL hDL hCD offC hl
    refine ⟨m', hn, fun h'' hs'' => fin D h'' tk l hl (F'.change hs'' hCL hC₀) (news_same N' hs'' fun p hp => ?_)⟩
    rcases List.mem_cons.mp hp with rfl | hp
    · exact Ne.symm hCD
    · exact offC p hp
end
end Mine
end
-- J
section
open PySem PySem.W PyProof.Rows
namespace Mine
theorem fresh_UnJ : True := by (w_top off; k_with_none; trivial)
theorem fillU7 : (fun (_ : OpenLaw) (_ : Params → Frag) => True) PySem.Challenge.rw_un0006_01 hd.heap_39 := by (k_fill; trivial)
def intVals (l : List (Int × Tok)) : List Value := l.map fun p => Value.int p.1 p.2
local macro_rules | `(tactic| walk_at "eval ListComp") => `(tactic| (k_here; k_dflt (refine Hold.out ?_)))
def signT (b : Int) (k : Nat) : Str := if Builtin.bitAnd (b.fdiv (2 ^ (2 - (k : Int)).toNat)) 1 = 0 then Str.ofString "-" else Txt.item (Str.ofString "rwx") k
def signV (v : Value) (k : Nat) : Str := match v with
  | .int b _ => signT b k
  | _ => Str.ofString "-"
def signsL (bs : List Int) : List Str := bs.flatMap fun b => (List.range 3).map (signT b)
def signsT (bs : List Int) : Str := Str.join ⟨#[]⟩ (signsL bs)
theorem signT_len {b : Int} : ∀ {k : Nat}, k < 3 → (signT b k).length = 1 := by
  intro k hk
  have h : ∀ k < 3, (Txt.item (Str.ofString "rwx") ((k : Nat) : Int)).length = 1 := by decide +kernel
  unfold signT
  split
  · decide +kernel
  · exact h k hk
theorem signsL_sum : ∀ bs : List Int, ((signsL bs).map (·.length)).sum = 3 * bs.length
  | [] => rfl
  | b :: bs => by
    have ih := signsL_sum bs
    have e : signsL (b :: bs) = [signT b 0, signT b 1, signT b 2] ++ signsL bs := rfl
    rw [e, List.map_append, List.sum_append, ih]
    simp [signT_len]
    omega
theorem signs_joinOk {bs : List Int} (h : bs.length ≤ 3) : JoinOk (Str.ofString "") (signsL bs) = true := by
  unfold JoinOk
  rw [StrLaws.joinTotal, signsL_sum]
  have h4 : (Str.ofString "").length = 0 := by decide +kernel
  have h5 : sizeLine = 16777216 := by decide
  rw [h4]
  show (!decide _) = true
  rw [decide_eq_false (by omega)]
  rfl
theorem join_none (ts : List Str) : Txt.join (Str.ofString "") ts = Str.join ⟨#[]⟩ ts := by
  have h4 : Str.ofString "" = ⟨#[]⟩ := by decide +kernel
  show Builtin.Str.glued (Str.ofString "") _ = _
  rw [StrLaws.glued_eq_join, h4]
theorem sign_yes {b : Int} {t : Tok} {k : Nat} (h : Builtin.bitAnd (b.fdiv (2 ^ (2 - (k : Int)).toNat)) 1 ≠ 0) : Txt.item (Str.ofString "rwx") k = signV (.int b t) k := (if_neg h).symm
theorem sign_no {b : Int} {t : Tok} {k : Nat} (h : Builtin.bitAnd (b.fdiv (2 ^ (2 - (k : Int)).toNat)) 1 = 0) : Str.ofString "-" = signV (.int b t) k := (if_pos h).symm
theorem signV_vals (l : List (Int × Tok)) : (intVals l).flatMap (fun v => (List.range 3).map (signV v)) = signsL (l.map (·.1)) := by
  simp only [intVals, signsL, List.flatMap_map]
  rfl
theorem signs_call {prog : Program} {w : World} {mean : ExcName → Option Value} {mg mb : Str → Option Value} {dp un : Nat} {gd : Option (List Code)} {cn : Str} {cs : Scope} {a : Addr} {ccd : Value} {cl : List (Str × Addr)} {outer : List Env} {A₀ : Around} {base h₀ : Heap} {L : Addr} {m : Str → Option Value} {news : List (Addr × Obj)} {s : Shared} {Q E : Value → Shared → Prop} {P : Addr} {k : Nat} {l : List (Int × Tok)}
    (B : Below A₀ base outer h₀) (F : Fr h₀ L s.heap m) (X : (hd.heap_39 w.params).In h₀) (N : News h₀ L s.heap news) (T : TopU mean mg mb h₀) (hk : cs.kind = .function) (hd : dp + 1 < recursionLimit) (hu : un + 8 < cLine)
    (hm : (P, ({ cls := .type "list", data := .seq (intVals l).toArray k } : Obj)) ∈ news) (hl : l.length ≤ 3) (hb : ∀ p ∈ l, 0 ≤ p.1 ∧ p.1 < 512)
    (hret : ∀ (t' : Tok) (h' : Heap) (tk' : Nat), Fr h₀ L h' m → News h₀ L h' news → Q (.str (signsT (l.map (·.1))) t') { s with heap := h', toks := tk' }) :
    wpAny (model prog w) (ktrTop dp un gd cn cs L a ccd cl outer) (call (.ref 124) [.ref P]) Q E s := by
  refine wpAny_call ?_
  k_dflt cell_enter
  k_steps
  refine Hold.mk ?_
  rename Fr _ _ _ _ => F1
  rename News _ _ _ _ => N1
  refine ListComp_two (f := signV) rfl (by decide) (by simp [intVals]; omega) (by decide : 3 ≤ 1000) (by decide) (by decide) (by rfl) (by decide) (by rfl) (by decide) (by rfl) (by rfl) (by intro _ _; rfl) (by intro _; rfl) F1 N1 hm ?_ ?_ ?_ ?_
  · k_steps
  · intro v I oI C oC D m₂ ys h tk E' hv hC hx F' N'
    obtain ⟨p, hp, rfl⟩ := List.mem_map.mp hv
    k_steps
    exact ⟨_, _, _, _, _, _, rfl, rfl, by k_asm, by k_asm, by assumption⟩
  · intro v i t J oJ I oI C oC D m₂ ys h tk E' hv hi hC hx hy F' N'
    obtain ⟨p, hp, rfl⟩ := List.mem_map.mp hv
    have hb := hb p hp
    k_steps
    · exact tend_of (sign_yes (by assumption)) (by k_asm) (by k_asm)
    · exact tend_of (sign_no (by assumption)) (by k_asm) (by k_asm)
  · intro D h tk l' hl' F' N'
    (try dsimp only)
    rw [signV_vals] at hl'
    k_steps
    refine SC.join (l := l') ⟨_, (N' _ (.head _)).1, rfl, _, rfl⟩ hl' (signs_joinOk (by simpa using hl)) ?_
    intro t' k'
    rw [join_none]
    (try dsimp only)
    k_steps
    all_goals exact hret _ _ _ (by k_asm) (cb_drop (by k_asm) fun p hp => .tail _ hp)
end Mine
end
-- K
section
open PySem PySem.W PyProof.Rows
namespace Mine
/-- the last three of filemode's row of a plain file -/
def sgn (b : Int) : Str := Txt.slice (Str.join ⟨#[]⟩ (fmPicks (32768 + b) 10)) (some 7) none
theorem cps_join (ts : List Str) : (Str.join ⟨#[]⟩ ts).cps.toList = ts.flatMap (·.cps.toList) := by
  induction ts with
  | nil => rfl
  | cons a r ih =>
    cases r with
    | nil => simp [Str.join]
    | cons b r =>
      have e : Str.join ⟨#[]⟩ (a :: b :: r) = a ++ ⟨#[]⟩ ++ Str.join ⟨#[]⟩ (b :: r) := rfl
      rw [e]
      show (a.cps ++ #[] ++ (Str.join ⟨#[]⟩ (b :: r)).cps).toList = _
      rw [Array.toList_append, ih]
      simp
theorem str_ext {a b : Str} (h : a.cps.toList = b.cps.toList) : a = b := by
  cases a; cases b
  simpa using h
theorem hits_7 : ∀ b < 512, fmHit 7 (32768 + ((b : Nat) : Int)) 4 = !decide (Builtin.bitAnd (((b : Nat) : Int).fdiv (2 ^ (2 - ((0 : Nat) : Int)).toNat)) 1 = 0) := by decide +kernel
theorem hits_8 : ∀ b < 512, fmHit 8 (32768 + ((b : Nat) : Int)) 2 = !decide (Builtin.bitAnd (((b : Nat) : Int).fdiv (2 ^ (2 - ((1 : Nat) : Int)).toNat)) 1 = 0) := by decide +kernel
theorem hits_9 : ∀ b < 512, fmHit 9 (32768 + ((b : Nat) : Int)) 513 = false ∧ fmHit 9 (32768 + ((b : Nat) : Int)) 512 = false ∧ fmHit 9 (32768 + ((b : Nat) : Int)) 1 = !decide (Builtin.bitAnd (((b : Nat) : Int).fdiv (2 ^ (2 - ((2 : Nat) : Int)).toNat)) 1 = 0) := by decide +kernel
theorem rwx_items : Txt.item (Str.ofString "rwx") ((0 : Nat) : Int) = Str.ofString "r" ∧ Txt.item (Str.ofString "rwx") ((1 : Nat) : Int) = Str.ofString "w" ∧ Txt.item (Str.ofString "rwx") ((2 : Nat) : Int) = Str.ofString "x" := by decide +kernel
theorem pick_7 {b : Nat} (hb : b < 512) : fmPick 7 (32768 + (b : Int)) [(87, 4, Str.ofString "r")] = signT (b : Int) 0 := by
  unfold fmPick signT
  simp only [List.find?, hits_7 b hb]
  by_cases h : Builtin.bitAnd (((b : Nat) : Int).fdiv (2 ^ (2 - ((0 : Nat) : Int)).toNat)) 1 = 0
  · rw [if_pos h, decide_eq_true h]; rfl
  · rw [if_neg h, decide_eq_false h]; exact rwx_items.1.symm
theorem pick_8 {b : Nat} (hb : b < 512) : fmPick 8 (32768 + (b : Int)) [(89, 2, Str.ofString "w")] = signT (b : Int) 1 := by
  unfold fmPick signT
  simp only [List.find?, hits_8 b hb]
  by_cases h : Builtin.bitAnd (((b : Nat) : Int).fdiv (2 ^ (2 - ((1 : Nat) : Int)).toNat)) 1 = 0
  · rw [if_pos h, decide_eq_true h]; rfl
  · rw [if_neg h, decide_eq_false h]; exact rwx_items.2.1.symm
theorem pick_9 {b : Nat} (hb : b < 512) : fmPick 9 (32768 + (b : Int)) [(91, 513, Str.ofString "t"), (92, 512, Str.ofString "T"), (93, 1, Str.ofString "x")] = signT (b : Int) 2 := by
  unfold fmPick signT
  simp only [List.find?, (hits_9 b hb).1, (hits_9 b hb).2.1, (hits_9 b hb).2.2]
  by_cases h : Builtin.bitAnd (((b : Nat) : Int).fdiv (2 ^ (2 - ((2 : Nat) : Int)).toNat)) 1 = 0
  · rw [if_pos h, decide_eq_true h]; rfl
  · rw [if_neg h, decide_eq_false h]; exact rwx_items.2.2.symm
theorem flat_len : ∀ (ts : List Str), (ts.flatMap (·.cps.toList)).length = (ts.map (·.length)).sum
  | [] => rfl
  | t :: r => by
    rw [List.flatMap_cons, List.length_append, flat_len r, List.map_cons, List.sum_cons]
    rfl
theorem drop_join {a r : List Str} {n : Nat} (h : (a.map (·.length)).sum = n) : Txt.slice (Str.join ⟨#[]⟩ (a ++ r)) (some (n : Int)) none = Str.join ⟨#[]⟩ r := by
  have hl : (Str.join ⟨#[]⟩ (a ++ r)).cps.toList = a.flatMap (·.cps.toList) ++ r.flatMap (·.cps.toList) := by rw [cps_join, List.flatMap_append]
  have hn := flat_len a
  rw [h] at hn
  have hlen : (Str.join ⟨#[]⟩ (a ++ r)).length = n + (r.flatMap (·.cps.toList)).length := by
    show (Str.join ⟨#[]⟩ (a ++ r)).cps.size = _
    rw [← Array.length_toList, hl, List.length_append, hn]
  rw [slice_from_eq (b := ((Str.join ⟨#[]⟩ (a ++ r)).length : Int)) (by omega) (by omega) rfl]
  refine str_ext ?_
  rw [hl, hlen, cps_join]
  show ((a.flatMap (·.cps.toList) ++ r.flatMap (·.cps.toList)).drop (n : Int).toNat).take _ = _
  rw [Int.toNat_natCast, List.drop_left' hn, List.take_of_length_le (by omega)]
theorem picks_ten (md : Int) : fmPicks md 10 = fmPicks md 7 ++ [fmPick 7 md [(87, 4, Str.ofString "r")], fmPick 8 md [(89, 2, Str.ofString "w")], fmPick 9 md [(91, 513, Str.ofString "t"), (92, 512, Str.ofString "T"), (93, 1, Str.ofString "x")]] := rfl
theorem sgn_eqN : ∀ b < 512, sgn ((b : Nat) : Int) = Str.join ⟨#[]⟩ [signT ((b : Nat) : Int) 0, signT ((b : Nat) : Int) 1, signT ((b : Nat) : Int) 2] := by
  intro b hb
  unfold sgn
  rw [picks_ten, pick_7 hb, pick_8 hb, pick_9 hb]
  exact drop_join (n := 7) (fmPicks_sum _ 7)
theorem sgn_eq {b : Int} (h0 : 0 ≤ b) (h1 : b < 512) : sgn b = Str.join ⟨#[]⟩ [signT b 0, signT b 1, signT b 2] := by
  obtain ⟨k, rfl⟩ : ∃ k : Nat, b = k := ⟨b.toNat, by omega⟩
  exact sgn_eqN k (by omega)
theorem sgn_join {bs : List Int} (h : ∀ b ∈ bs, 0 ≤ b ∧ b < 512) : Str.join ⟨#[]⟩ (bs.map sgn) = signsT bs := by
  refine str_ext ?_
  unfold signsT
  rw [cps_join, cps_join]
  induction bs with
  | nil => rfl
  | cons b bs ih =>
    have hb := h b (.head _)
    rw [List.map_cons, List.flatMap_cons, ih fun x hx => h x (.tail _ hx), sgn_eq hb.1 hb.2, cps_join]
    have e : signsL (b :: bs) = [signT b 0, signT b 1, signT b 2] ++ signsL bs := rfl
    rw [e, List.flatMap_append]
theorem sgn_len (b : Int) : (sgn b).length ≤ 10 := by
  have h1 := slice_len (Str.join ⟨#[]⟩ (fmPicks (32768 + b) 10)) (some 7) none
  have key : ∀ ts : List Str, (Str.join ⟨#[]⟩ ts).length = (ts.map (·.length)).sum := fun ts => by
    show (Str.join ⟨#[]⟩ ts).cps.size = _
    rw [← Array.length_toList, cps_join, List.length_flatMap]
    rfl
  rw [key, fmPicks_sum] at h1
  exact h1
theorem sgn_joinOk {bs : List Int} (h : bs.length ≤ 3) : JoinOk (Str.ofString "") (bs.map sgn) = true := by
  unfold JoinOk
  rw [StrLaws.joinTotal]
  have h4 : (Str.ofString "").length = 0 := by decide +kernel
  have h5 : sizeLine = 16777216 := by decide
  have h6 : ∀ bs : List Int, ((bs.map sgn).map (·.length)).sum ≤ 10 * bs.length := by
    intro bs
    induction bs with
    | nil => exact Nat.le_refl _
    | cons b r ih =>
      have := sgn_len b
      simp only [List.map_cons, List.sum_cons, List.length_cons] at ih ⊢
      omega
  have h7 := h6 bs
  rw [h4]
  show (!decide _) = true
  rw [decide_eq_false (by omega)]
  rfl
section
variable {prog : Program} {w : World} {A : Around} {E : Value → Shared → Prop} {s : Shared} {h₀ : Heap} {L : Addr} {m : Str → Option Value} {env : Env} {news : List (Addr × Obj)}
theorem ListComp_H {elt iter : Expr} {x : Str} {px : Pos} {scope : Scope} {cl : List (Str × Addr)} {pos : Pos} {Q : Value → Shared → Prop} (F₀ : Fr h₀ L s.heap m)
    (hclos : closureFor scope env = pure cl) (hcell : ∀ y ∈ scope.names, y.2 ≠ .cell) (hkind : scope.kind = .function)
    (hnames : ∀ y ∈ scope.names, y.2 = .local → scope.names.lookup y.1 = some .local) (hx : scope.names.lookup x = some .local)
    (h : wpAny (model prog w) A (eval iter env) (fun v s₁ => Hold (LCg.CompSrc prog w A h₀ L m env elt x scope cl (fun s₂ => LCg.FinE h₀ L m s₂ Q) v s₁)) E s)
    (hs : ∀ x, foldedSetIterable iter env x = pure x := by intro _; rfl) :
    wpAny (model prog w) A (eval (.ListComp elt [⟨.Name x px, iter, [], 0⟩] scope pos) env) Q E s :=
  LCg.ListComp_U F₀ hclos hcell hkind hnames hx (wpAny_mono h (fun _ _ h => h.out) fun _ _ e => e) hs
theorem join_K {sep : Str} {t : Tok} {D : Addr} {l : List (Str × Tok)} {ts : List Str} {k : Nat} {Q : Value → Shared → Prop} (F : Fr h₀ L s.heap m) (N : News h₀ L s.heap news)
    (hm : (D, ({ cls := .type "list", data := .seq (strValues l).toArray k } : Obj)) ∈ news) (hl : l.map (·.1) = ts) (hok : JoinOk sep ts = true)
    (hq : ∀ t' k, Fr h₀ L s.heap m → News h₀ L s.heap news → Q (.str (Txt.join sep ts) t') { s with toks := k }) : wpAny (model prog w) A (call (.builtin "str.join") [.str sep t, .ref D]) Q E s :=
  SC.join ⟨_, (N _ hm).1, rfl, k, rfl⟩ hl hok fun t' k' => hq t' k' F N
theorem ints_all2 {f : Int → Str} : ∀ {ys : List Value} {ns : List Int} {zs : List Value}, IntsAre ys ns → All2 (fun v y => ∀ n t, v = .int n t → ∃ t', y = .str (f n) t') ys zs → ∃ l', zs = strValues l' ∧ l'.map (·.1) = ns.map f
  | _, _, _, .nil, .nil => ⟨[], rfl, rfl⟩
  | _, _, _, .cons n t h, .cons (ys := zs) g r => by
    obtain ⟨t', e⟩ := g n t rfl
    obtain ⟨l', e', h⟩ := ints_all2 h r
    subst e e'
    exact ⟨(f n, t') :: l', rfl, by simp [h]⟩
theorem ints_item : ∀ {ys : List Value} {ns : List Int} {i : Nat} {v : Value}, IntsAre ys ns → ys[i]? = some v → ∃ n t, v = .int n t ∧ n ∈ ns
  | _, _, 0, _, .cons n t h, e => ⟨n, t, by simpa using e.symm, .head _⟩
  | _, _, i + 1, _, .cons n t h, e => by
    obtain ⟨n', t', e', hm⟩ := ints_item h (by simpa using e)
    exact ⟨n', t', e', .tail _ hm⟩
theorem compIntStrs {elt : Expr} {x : Str} {scope : Scope} {cl : List (Str × Addr)} {Q : Value → Shared → Prop} {ax : Addr} {ys : List Value} {ns : List Int} {k : Nat} (f : Int → Str)
    (hh : A.handled = none) (F : Fr h₀ L s.heap m) (N : News h₀ L s.heap news) (hm : (ax, ({ cls := .type "list", data := .seq ys.toArray k } : Obj)) ∈ news) (hI : IntsAre ys ns) (hl : ys.length ≤ sizeLine)
    (turn : ∀ (n : Int) (t : Tok) I oI C oC D m₂ zs h tk (E' : Value → Shared → Prop), n ∈ ns → LCg.NsObj oC m₂ → m₂ x = some (.int n t) → Fr h₀ L h m → News h₀ L h ((I, oI) :: (C, oC) :: (D, LCg.lst zs) :: news) →
      wpAny (model prog w) A (eval elt (compEnvC scope cl C env)) (TEnd h₀ L m s (f n) ((I, oI) :: (C, oC) :: (D, LCg.lst zs) :: news)) E' { s with heap := h, toks := tk })
    (fin : ∀ (l' : List (Str × Tok)) D h tk, l'.map (·.1) = ns.map f → Fr h₀ L h m → News h₀ L h ((D, LCg.lst (strValues l')) :: news) → Q (.ref D) { s with heap := h, toks := tk }) :
    LCg.CompSrc prog w A h₀ L m env elt x scope cl (fun s₂ => LCg.FinE h₀ L m s₂ Q) (.ref ax) s := by
  have hsz : ys.toArray.size = ys.length := by simp
  refine LCg.CompSrc.ledger hh F N hm (by rw [hsz]; exact hl) ?_
  intro g
  rw [hsz]
  refine comp_rest (vs := ys) (fun v y => ∀ n t, v = .int n t → ∃ t', y = .str (f n) t') (fun i v hv => ⟨v, by simpa using hv, fun _ h => h⟩) ?_ ?_
  · intro v I oI C oC D m₂ zs h tk E' hv hC hx F' N' off ne
    obtain ⟨i, hi⟩ := hv
    obtain ⟨n, t, rfl, hr⟩ := ints_item hI (by simpa using hi)
    refine wpAny_mono (turn n t I oI C oC D m₂ zs h tk E' hr hC hx F' N') (fun y s₂ hq => ?_) fun _ _ e => e
    obtain ⟨h', tk', t', rfl, rfl, F'', N''⟩ := hq
    refine LCg.CompEnd.intro F'' N'' news (fun p hp => hp) off (.inr ⟨_, hm, rfl, _, rfl⟩) ⟨rfl, ?_⟩
    intro n' t'' e
    cases e
    exact ⟨t', rfl⟩
  · intro zs hy D h tk F' N' _
    obtain ⟨l', rfl, hl'⟩ := ints_all2 hI hy
    exact fin l' D h tk hl' F' N'
end
/-- a text is filemode's row -/
structure FmEq (md : Int) (x : Str) : Prop where
  eq : x = Str.join ⟨#[]⟩ (fmPicks md 10)
theorem FmEq.sgn {n : Int} {x : Str} (h : FmEq (32768 + n) x) : Txt.slice x (some 7) none = sgn n := by rw [h.eq]; rfl
theorem filemode_callX {prog : Program} {w : World} {mean : ExcName → Option Value} {mg mb : Str → Option Value} {dp un : Nat} {gd : Option (List Code)} {cn : Str} {cs : Scope} {a : Addr} {ccd : Value} {cl : List (Str × Addr)} {outer : List Env} {A₀ : Around} {base h₀ : Heap} {L : Addr} {m : Str → Option Value} {news : List (Addr × Obj)} {s : Shared} {Q E : Value → Shared → Prop} {md : Int} {t : Tok}
    (B : Below A₀ base outer h₀) (F : Fr h₀ L s.heap m) (X : (hd.heap_39 w.params).In h₀) (N : News h₀ L s.heap news) (T : TopU mean mg mb h₀) (hk : cs.kind = .function) (hd : dp + 2 < recursionLimit) (hu : un + 16 < cLine)
    (hret : ∀ (x : Str) (t' : Tok) (h' : Heap) (tk' : Nat), FmEq md x → x.length = 10 → Fr h₀ L h' m → News h₀ L h' news → Q (.str x t') { s with heap := h', toks := tk' }) :
    wpAny (model prog w) (ktrTop dp un gd cn cs L a ccd cl outer) (call (.ref 102) [.int md t]) Q E s :=
  filemode_call B F X N T hk hd hu fun t' h' tk' F' N' => hret _ t' h' tk' ⟨rfl⟩ (by
    have key : ∀ ts : List Str, (Str.join ⟨#[]⟩ ts).length = (ts.map (·.length)).sum := fun ts => by
      show (Str.join ⟨#[]⟩ ts).cps.size = _
      rw [← Array.length_toList, cps_join, List.length_flatMap]
      rfl
    rw [key, fmPicks_sum]) F' N'
end Mine
end
-- N
section
open PySem PySem.W PyProof.Rows
namespace Mine
theorem fr_set {h₀ h h' : Heap} {L : Addr} {m : Str → Option Value} {S : List Addr} (F : Fr h₀ L h m) (hk : ∀ b o, b ∉ S → h.get? b = some o → h'.get? b = some o) (hS : ∀ b ∈ S, b ≠ L ∧ h₀.get? b = none) : Fr h₀ L h' m :=
  ⟨F.ns.at' fun o e => hk L o (fun hm => (hS L hm).1 rfl) e, fun b o e => hk b o (fun hm => by rw [(hS b hm).2] at e; cases e) (F.keep b o e), F.above⟩
theorem news_set {h₀ h h' : Heap} {L : Addr} {S : List Addr} {nw : List (Addr × Obj)} (N : News h₀ L h nw) (hk : ∀ b o, b ∉ S → h.get? b = some o → h'.get? b = some o) (off : ∀ p ∈ nw, p.1 ∉ S) : News h₀ L h' nw :=
  fun p hp => ⟨hk _ _ (off p hp) (N p hp).1, (N p hp).2⟩
section
open LCg
variable {prog : Program} {w : World} {A : Around} {E : Value → Shared → Prop} {h₀ : Heap} {L : Addr} {m : Str → Option Value} {env : Env}
theorem block_zip {elt iter : Expr} {x y : Str} {px py tp : Pos} {kk : Nat} {scope : Scope} {cl : List (Str × Addr)} {pos : Pos} {s₂ : Shared} {z TI TO i1 i2 l1 l2 : Addr} {xs ys : List Value} {k1 k2 : Nat} {news : List (Addr × Obj)} {f : Value → Value → Str}
    {RR : Value → Addr → Result → Shared → Prop} (hh : A.handled = none) (hxy : x ≠ y) (hn : (xs.zip ys).length ≤ 1000)
    (hcell : ∀ y ∈ scope.names, y.2 ≠ .cell) (hkind : scope.kind = .function) (hx : scope.names.lookup x = some .local) (hy : scope.names.lookup y = some .local)
    (ap : ZipApart z TI TO i1 i2 l1 l2) (hz : IsZip s₂.heap z TI TO .none) (hTI : IsPair s₂.heap TI (.ref i1) (.ref i2)) (hTO : ∃ a b, IsPair s₂.heap TO a b) (h1 : s₂.heap.IsListIter i1 l1 0) (h2 : s₂.heap.IsListIter i2 l2 0)
    (F : Fr h₀ L s₂.heap m) (N : News h₀ L s₂.heap news) (hm1 : (l1, ({ cls := .type "list", data := .seq xs.toArray k1 } : Obj)) ∈ news) (hm2 : (l2, ({ cls := .type "list", data := .seq ys.toArray k2 } : Obj)) ∈ news)
    (hS : ∀ b ∈ [z, TI, TO, i1, i2], b ≠ L ∧ h₀.get? b = none) (off : ∀ p ∈ news, p.1 ∉ [z, TI, TO, i1, i2])
    (turn : ∀ v₁ v₂ oz oTI oTO o1 o2 C oC D m₂ zs h tk (E' : Value → Shared → Prop), (v₁, v₂) ∈ xs.zip ys → NsObj oC m₂ → m₂ x = some v₁ → m₂ y = some v₂ → Fr h₀ L h m →
      News h₀ L h ((C, oC) :: (D, lst zs) :: (z, oz) :: (TI, oTI) :: (TO, oTO) :: (i1, o1) :: (i2, o2) :: news) →
      wpAny (model prog w) A (eval elt (compEnvC scope cl C env)) (TEnd h₀ L m { s₂ with heap := h, toks := tk } (f v₁ v₂) ((C, oC) :: (D, lst zs) :: (z, oz) :: (TI, oTI) :: (TO, oTO) :: (i1, o1) :: (i2, o2) :: news)) E' { s₂ with heap := h, toks := tk })
    (hRR : ∀ D C h tk m' l, Fr h₀ L h m → News h₀ L h ((D, lst (strValues l)) :: news) → h.Ns C m' → h₀.get? C = none → h₀.get? D = none → C ≠ L → D ≠ L → C ≠ D → (∀ p ∈ news, p.1 ≠ C) → l.map (·.1) = (xs.zip ys).map (fun p => f p.1 p.2) → RR (.ref D) C (.ok .next) { s₂ with heap := h, toks := tk }) :
    wpAny (model prog w) A (newList []) (fun acc s₃ => wpAny (model prog w) A (newFunctionEnv scope env.globals cl [] env.qual none .none (some env)) (fun cenv s₄ =>
      codeAny (model prog w) A (.compStart (.ListComp elt [⟨.Tuple [.Name x px, .Name y py] kk tp, iter, [], 0⟩] scope pos) 0 (.ref z) acc { cenv with scope := relabel scope env }) (RR acc cenv.locals) s₄) E s₃) E s₂ := by
  refine wpAny_newObj_type (wpAny_newFunctionEnv hcell (by intro y hy; simp at hy) (fun h₁ hns₁ hsb₁ => ?_) hkind)
  dsimp only at hns₁ hsb₁ ⊢
  generalize hH2 : s₂.heap.push { cls := .type "list", dict := none, data := .seq ([] : List Value).toArray } = H2 at hns₁ hsb₁ ⊢
  have hC : H2.objs.size = s₂.heap.objs.size + 1 := by rw [← hH2, Heap.size_push]
  have hDC : s₂.heap.objs.size ≠ H2.objs.size := by rw [hC]; exact Nat.ne_of_lt (Nat.lt_succ_self _)
  have below : ∀ b, b < s₂.heap.objs.size → b ≠ H2.objs.size ∧ b ≠ s₂.heap.objs.size := fun b hb => ⟨by rw [hC]; exact Nat.ne_of_lt (Nat.lt_succ_of_lt hb), Nat.ne_of_lt hb⟩
  have old : ∀ b o, s₂.heap.get? b = some o → h₁.get? b = some o := fun b o e => hsb₁.extBut b o (below b (Heap.lt_size e)).1 (Heap.get?_push_of_some _ (hH2 ▸ Heap.get?_push_of_some _ e))
  have hacc : h₁.get? s₂.heap.objs.size = some (lst []) := hsb₁.extBut _ _ hDC (Heap.get?_push_of_some _ (hH2 ▸ Heap.get?_push_size _ rfl))
  have hD₀ : h₀.get? s₂.heap.objs.size = none := (new_none F (Nat.le_refl _)).1
  have hC₀ : h₀.get? H2.objs.size = none := (new_none F (by rw [hC]; exact Nat.le_succ _)).1
  have hLlt : L < s₂.heap.objs.size := F.ns.lt
  have hDL : s₂.heap.objs.size ≠ L := Ne.symm (below L hLlt).2
  have hCL : H2.objs.size ≠ L := Ne.symm (below L hLlt).1
  have five : ∀ b ∈ [z, TI, TO, i1, i2], b < s₂.heap.objs.size := by
    intro b hb
    simp only [List.mem_cons, List.not_mem_nil, or_false] at hb
    obtain ⟨a, b', hTO⟩ := hTO
    rcases hb with rfl | rfl | rfl | rfl | rfl
    · exact Heap.lt_size hz
    · exact Heap.lt_size hTI
    · exact Heap.lt_size hTO
    · obtain ⟨_, e, _⟩ := h1; exact Heap.lt_size e
    · obtain ⟨_, e, _⟩ := h2; exact Heap.lt_size e
  have fiveC : ∀ b ∈ [z, TI, TO, i1, i2], b ≠ H2.objs.size ∧ b ≠ s₂.heap.objs.size := fun b hb => below b (five b hb)
  have offC : ∀ p ∈ news, p.1 ≠ H2.objs.size := fun p hp => (below _ (Heap.lt_size (N p hp).1)).1
  have offD : ∀ p ∈ news, p.1 ≠ s₂.heap.objs.size := fun p hp => (below _ (Heap.lt_size (N p hp).1)).2
  have hsl : sizeLine = 16777216 := by decide
  have N₁ : News h₀ L h₁ ((s₂.heap.objs.size, lst (strValues [])) :: news) := fun p hp => by
    rcases List.mem_cons.mp hp with rfl | hp
    · exact ⟨hacc, hDL, hD₀⟩
    · exact ⟨old _ _ (N p hp).1, (N p hp).2⟩
  have hz₁ : IsZip h₁ z TI TO .none := old _ _ hz
  have hTI₁ : IsPair h₁ TI (.ref i1) (.ref i2) := old _ _ hTI
  have hTO₁ : ∃ a b, IsPair h₁ TO a b := by obtain ⟨a, b, e⟩ := hTO; exact ⟨a, b, old _ _ e⟩
  have h1₁ : h₁.IsListIter i1 l1 0 := h1.at fun o e => old _ _ e
  have h2₁ : h₁.IsListIter i2 l2 0 := h2.at fun o e => old _ _ e
  have F₁ := F.keeps old
  have isl1 : ∀ {h : Heap} {q : List (Addr × Obj)}, News h₀ L h q → (∀ p ∈ news, p ∈ q) → h.IsList l1 xs.toArray := fun N' sub => ⟨_, (N' _ (sub _ hm1)).1, rfl, _, rfl⟩
  have isl2 : ∀ {h : Heap} {q : List (Addr × Obj)}, News h₀ L h q → (∀ p ∈ news, p ∈ q) → h.IsList l2 ys.toArray := fun N' sub => ⟨_, (N' _ (sub _ hm2)).1, rfl, _, rfl⟩
  generalize s₂.heap.objs.size = D at *
  generalize H2.objs.size = C at *
  have loop : ∀ s₃ : Shared, s₃ = { s₂ with heap := h₁, toks := s₂.toks + ([] : List (Str × Value)).length } →
      codeAny (model prog w) A (.compLoop (.ListComp elt [⟨.Tuple [.Name x px, .Name y py] kk tp, iter, [], 0⟩] scope pos) 0 (.ref z) (.ref D) (compEnvC scope cl C env))
        (RR (.ref D) C) s₃ := by
    rintro s₃ rfl
    refine LCp.codeAny_compLoop_pair
      (fun kk s' => ∃ h' tk i l m', s' = { s₂ with heap := h', toks := tk } ∧ i ≤ (xs.zip ys).length ∧ kk = (xs.zip ys).length + 1 - i ∧ IsZip h' z TI TO .none ∧ IsPair h' TI (.ref i1) (.ref i2) ∧ (∃ a b, IsPair h' TO a b) ∧ h'.IsListIter i1 l1 i ∧ h'.IsListIter i2 l2 i ∧
        Fr h₀ L h' m ∧ h'.Ns C m' ∧ News h₀ L h' ((D, lst (strValues l)) :: news) ∧ l.map (·.1) = ((xs.zip ys).take i).map (fun p => f p.1 p.2)) ?_ ((xs.zip ys).length + 1)
      ⟨h₁, _, 0, [], _, rfl, Nat.zero_le _, rfl, hz₁, hTI₁, hTO₁, h1₁, h2₁, F₁, hns₁, N₁, by simp⟩
    rintro kk' s' ⟨h', tk, i, l, m', rfl, hi, rfl, hz', hTI', ⟨a0, b0, hTO'⟩, h1', h2', F', hn', N', hl⟩
    by_cases hlt : i < (xs.zip ys).length
    · have hp : (xs.zip ys)[i]? = some ((xs.zip ys)[i]) := List.getElem?_eq_getElem hlt
      generalize (xs.zip ys)[i] = p at hp
      obtain ⟨v₁, v₂⟩ := p
      have hpm : (v₁, v₂) ∈ xs.zip ys := List.mem_of_getElem? hp
      obtain ⟨e1, e2⟩ := List.getElem?_zip_eq_some.mp hp
      refine wpAny_pyNext_zip_item ap hz' hTI' hTO' h1' h2' (isl1 N' fun p hp => .tail _ hp) (isl2 N' fun p hp => .tail _ hp) (by simpa using e1) (by simpa using e2) fun h₂ a1 a2 a3 a4 a5 a6 hk => ?_
      refine wpAny_letOwnedTupleGo_zip a1 fun h₃ hz₃ hs₃ => ?_
      have hTz : h'.objs.size ≠ z := Nat.ne_of_gt (Heap.lt_size hz')
      have hkz : ∀ b o, b ∉ [z, TI, TO, i1, i2] → h'.get? b = some o → h₃.get? b = some o := fun b o hb e => by
        simp only [List.mem_cons, List.not_mem_nil, or_false, not_or] at hb
        exact hs₃.extBut _ _ hb.1 (hk _ _ hb.1 hb.2.2.1 hb.2.2.2.1 hb.2.2.2.2 e)
      have hCf : C ∉ [z, TI, TO, i1, i2] := fun hm => (fiveC C hm).1 rfl
      have hDf : D ∉ [z, TI, TO, i1, i2] := fun hm => (fiveC D hm).2 rfl
      refine kcp_assign (m := m') hh ⟨_, hs₃.extBut _ _ hTz a5, rfl, _, rfl⟩ (lookup_relabel_local hx) (lookup_relabel_local hy) (by simp [compEnvC, relabel, hkind]) (hn'.at' fun o e => hkz _ o hCf e) fun h₄ tk₄ hn₄ hk₄ => ?_
      have F₄ : Fr h₀ L h₄ m := by
        refine fr_set (S := [C]) (fr_set F' hkz hS) (fun b o hb e => hk₄ b o (fun q => hb (List.mem_singleton.mpr q)) e) fun b hb => ?_
        rw [List.mem_singleton.mp hb]
        exact ⟨hCL, hC₀⟩
      have N₄ : News h₀ L h₄ ((D, lst (strValues l)) :: news) := by
        refine news_set (S := [C]) (news_set N' hkz fun p hp => ?_) (fun b o hb e => hk₄ b o (fun q => hb (List.mem_singleton.mpr q)) e) fun p hp => ?_
        · rcases List.mem_cons.mp hp with rfl | hp
          · exact hDf
          · exact off p hp
        · rcases List.mem_cons.mp hp with rfl | hp
          · simpa using hDC
          · simpa using offC p hp
      have cz := (fiveC z (by simp)).1
      have cTI := (fiveC TI (by simp)).1
      have cTO := (fiveC TO (by simp)).1
      have c1 := (fiveC i1 (by simp)).1
      have c2 := (fiveC i2 (by simp)).1
      have gz := hk₄ _ _ cz hz₃
      have gTI := hk₄ _ _ cTI (hs₃.extBut _ _ ap.TIz (hk _ _ ap.TIz ap.TITO ap.TIi1 ap.TIi2 hTI'))
      have gTO := hk₄ _ _ cTO (hs₃.extBut _ _ ap.TOz a2)
      obtain ⟨o1, g1, s1'⟩ := a3
      obtain ⟨o2, g2, s2'⟩ := a4
      have g1 := hk₄ _ _ c1 (hs₃.extBut _ _ ap.i1z g1)
      have g2 := hk₄ _ _ c2 (hs₃.extBut _ _ ap.i2z g2)
      obtain ⟨oC, gC, hoC⟩ := ns_obj hn₄
      have sz := hS z (by simp)
      have sTI := hS TI (by simp)
      have sTO := hS TO (by simp)
      have s1 := hS i1 (by simp)
      have s2 := hS i2 (by simp)
      refine wpAny_mono (turn v₁ v₂ { cls := .type "zip", dict := none, data := .fields #[.none, .bool false, .bool false, .ref TI, .ref TO], slots := #[] } { cls := .type "tuple", data := .seq #[.ref i1, .ref i2] } { cls := .type "tuple", data := .seq #[v₁, v₂] } o1 o2 C oC D _ (strValues l) h₄ _ _ hpm hoC (by simp [hxy]) (by simp) F₄ ?_) (fun yv s₅ h₅ => ?_) fun _ _ e => e
      · intro p hp
        simp only [List.mem_cons] at hp
        rcases hp with rfl | rfl | rfl | rfl | rfl | rfl | rfl | hp
        · exact ⟨gC, hCL, hC₀⟩
        · exact N₄ _ (.head _)
        · exact ⟨gz, sz⟩
        · exact ⟨gTI, sTI⟩
        · exact ⟨gTO, sTO⟩
        · exact ⟨g1, s1⟩
        · exact ⟨g2, s2⟩
        · exact N₄ p (.tail _ hp)
      · obtain ⟨h₅, tk₅, t', rfl, rfl, F₅, N₅⟩ := h₅
        have zC := (N₅ (C, oC) (.head _)).1
        have zD := (N₅ (D, lst (strValues l)) (.tail _ (.head _))).1
        have zz := (N₅ (z, _) (.tail _ (.tail _ (.head _)))).1
        have zTI := (N₅ (TI, _) (.tail _ (.tail _ (.tail _ (.head _))))).1
        have zTO := (N₅ (TO, _) (.tail _ (.tail _ (.tail _ (.tail _ (.head _)))))).1
        have z1 := (N₅ (i1, o1) (.tail _ (.tail _ (.tail _ (.tail _ (.tail _ (.head _))))))).1
        have z2 := (N₅ (i2, o2) (.tail _ (.tail _ (.tail _ (.tail _ (.tail _ (.tail _ (.head _)))))))).1
        have dz := (fiveC z (by simp)).2
        have dTI := (fiveC TI (by simp)).2
        have dTO := (fiveC TO (by simp)).2
        have d1 := (fiveC i1 (by simp)).2
        have d2 := (fiveC i2 (by simp)).2
        have hll : l.length = i := by
          have := congrArg List.length hl
          simp only [List.length_map, List.length_take] at this
          omega
        refine append_at (hsz := by rw [List.size_toArray]; simp only [strValues, List.length_map]; omega) zD fun h₆ hs₆ hD₆ => ?_
        refine ⟨(xs.zip ys).length + 1 - (i + 1), by omega, h₆, tk₅, i + 1, l ++ [(f v₁ v₂, t')], _, rfl, hlt, rfl, hs₆.extBut _ _ dz zz, hs₆.extBut _ _ dTI zTI, ⟨_, _, hs₆.extBut _ _ dTO zTO⟩, ⟨o1, hs₆.extBut _ _ d1 z1, s1'⟩, ⟨o2, hs₆.extBut _ _ d2 z2, s2'⟩,
          F₅.change hs₆ hDL hD₀, (hoC.ns zC).sameBut hs₆ (Ne.symm hDC), ?_, ?_⟩
        · intro p hp
          rcases List.mem_cons.mp hp with rfl | hp
          · refine ⟨hD₆.trans (congrArg some ?_), hDL, hD₀⟩
            rw [lst_snoc]
            simp [strValues]
          · have hp' := N₅ p (.tail _ (.tail _ (.tail _ (.tail _ (.tail _ (.tail _ (.tail _ hp)))))))
            exact ⟨hs₆.extBut _ _ (offD p hp) hp'.1, hp'.2⟩
        · rw [List.map_append, hl, List.take_add_one, hp]
          simp
    · obtain rfl : i = (xs.zip ys).length := Nat.le_antisymm hi (Nat.not_lt.mp hlt)
      have hend : xs.toArray[(xs.zip ys).length]? = none ∨ ys.toArray[(xs.zip ys).length]? = none := by
        rw [List.length_zip]
        rcases Nat.le_total xs.length ys.length with h | h
        · exact .inl (by rw [Nat.min_eq_left h]; simp)
        · exact .inr (by rw [Nat.min_eq_right h]; simp)
      refine wpAny_pyNext_zip_end hh ap hz' hTI' hTO' h1' h2' (isl1 N' fun p hp => .tail _ hp) (isl2 N' fun p hp => .tail _ hp) hend fun h₂ hk => ?_
      rw [List.take_length] at hl
      have hkz : ∀ b o, b ∉ [z, TI, TO, i1, i2] → h'.get? b = some o → h₂.get? b = some o := fun b o hb e => by
        simp only [List.mem_cons, List.not_mem_nil, or_false, not_or] at hb
        exact hk _ _ hb.1 hb.2.2.1 hb.2.2.2.1 hb.2.2.2.2 e
      have hCf : C ∉ [z, TI, TO, i1, i2] := fun hm => (fiveC C hm).1 rfl
      have hDf : D ∉ [z, TI, TO, i1, i2] := fun hm => (fiveC D hm).2 rfl
      refine hRR D C h₂ tk m' l (fr_set F' hkz hS) (news_set N' hkz fun p hp => ?_) (hn'.at' fun o e => hkz _ o hCf e) hC₀ hD₀ hCL hDL (Ne.symm hDC) offC hl
      rcases List.mem_cons.mp hp with rfl | hp
      · exact hDf
      · exact off p hp
  exact codeAny_compStart_list (loop _ rfl) (wpAny_pyIter_zip hz₁ (loop _ rfl))

def ZipOn (h₀ : Heap) (L : Addr) (h : Heap) (z l1 l2 : Addr) (news : List (Addr × Obj)) : Prop :=
  ∃ TI TO i1 i2, ZipApart z TI TO i1 i2 l1 l2 ∧ IsZip h z TI TO .none ∧ IsPair h TI (.ref i1) (.ref i2) ∧ (∃ a b, IsPair h TO a b) ∧ h.IsListIter i1 l1 0 ∧ h.IsListIter i2 l2 0 ∧
    (∀ b ∈ [z, TI, TO, i1, i2], b ≠ L ∧ h₀.get? b = none) ∧ ∀ p ∈ news, p.1 ∉ [z, TI, TO, i1, i2]
theorem zip_K {s : Shared} {l1 l2 : Addr} {xs ys : List Value} {k1 k2 : Nat} {news : List (Addr × Obj)} {Q : Value → Shared → Prop} (F : Fr h₀ L s.heap m) (N : News h₀ L s.heap news)
    (hm1 : (l1, ({ cls := .type "list", data := .seq xs.toArray k1 } : Obj)) ∈ news) (hm2 : (l2, ({ cls := .type "list", data := .seq ys.toArray k2 } : Obj)) ∈ news)
    (h : ∀ z h', ZipOn h₀ L h' z l1 l2 news → Fr h₀ L h' m → News h₀ L h' news → Q (.ref z) { s with heap := h' }) :
    wpAny (model prog w) A (call (.type "zip") [.ref l1, .ref l2]) Q E s := by
  refine call_zip_2 (xs := xs.toArray) (ys := ys.toArray) ⟨_, (N _ hm1).1, rfl, _, rfl⟩ ⟨_, (N _ hm2).1, rfl, _, rfl⟩ fun h' hz hTI hTO h1 h2 hsz hk => ?_
  have q1 : @LT.lt Nat _ l1 s.heap.objs.size := Heap.lt_size (N _ hm1).1
  have q2 : @LT.lt Nat _ l2 s.heap.objs.size := Heap.lt_size (N _ hm2).1
  have ne : ∀ {a b : Nat}, a < b → (@Ne Nat a b) ∧ (@Ne Nat b a) := fun h => ⟨Nat.ne_of_lt h, Nat.ne_of_gt h⟩
  refine h _ h' ⟨_, _, _, _, ⟨?_, ?_, ?_, ?_, ?_, ?_, ?_, ?_, ?_, ?_, ?_, ?_, ?_, ?_, ?_, ?_, ?_, ?_⟩, hz, hTI, ⟨_, _, hTO⟩, h1, h2, ?_, ?_⟩ (F.keeps hk) (N.grown hk)
  case refine_19 =>
    intro b hb
    have hb' : s.heap.objs.size ≤ b := by
      simp only [List.mem_cons, List.not_mem_nil, or_false] at hb
      rcases hb with rfl | rfl | rfl | rfl | rfl <;> first | exact Nat.le_add_right _ _ | exact Nat.le_refl _
    exact ⟨(new_none F hb').2, (new_none F hb').1⟩
  case refine_20 =>
    intro p hp hb
    have hb' : s.heap.objs.size ≤ p.1 := by
      simp only [List.mem_cons, List.not_mem_nil, or_false] at hb
      rcases hb with hb | hb | hb | hb | hb <;> rw [hb] <;> first | exact Nat.le_add_right _ _ | exact Nat.le_refl _
    exact absurd (Heap.lt_size (N p hp).1) (Nat.not_lt.mpr hb')
  all_goals first
    | exact (ne (by omega)).1
    | exact (ne (by omega)).2
theorem ListComp_zip {elt iter : Expr} {x y : Str} {px py tp : Pos} {kk : Nat} {scope : Scope} {cl : List (Str × Addr)} {pos : Pos} {s : Shared} {Q : Value → Shared → Prop} {xs ys : List Value} {k1 k2 : Nat} {l1 l2 : Addr} {news : List (Addr × Obj)} {f : Value → Value → Str}
    (hh : A.handled = none) (hxy : x ≠ y) (hn : (xs.zip ys).length ≤ 1000)
    (hclos : closureFor scope env = pure cl) (hcell : ∀ y ∈ scope.names, y.2 ≠ .cell) (hkind : scope.kind = .function)
    (hnames : ∀ y ∈ scope.names, y.2 = .local → scope.names.lookup y.1 = some .local) (hx : scope.names.lookup x = some .local) (hy : scope.names.lookup y = some .local)
    (hs : ∀ x, foldedSetIterable iter env x = pure x) (_ : Fr h₀ L s.heap m) (_ : News h₀ L s.heap news) {ns : List Int} (_ : IntsAre ys ns)
    (hm1 : (l1, ({ cls := .type "list", data := .seq xs.toArray k1 } : Obj)) ∈ news) (hm2 : (l2, ({ cls := .type "list", data := .seq ys.toArray k2 } : Obj)) ∈ news)
    (hi : wpAny (model prog w) A (eval iter env) (fun v s₁ => ∃ z h' tk', v = .ref z ∧ s₁ = { s with heap := h', toks := tk' } ∧ ZipOn h₀ L h' z l1 l2 news ∧ Fr h₀ L h' m ∧ News h₀ L h' news) E s)
    (turn : ∀ z TI TO i1 i2 v₁ v₂ oz oTI oTO o1 o2 C oC D m₂ zs h tk (E' : Value → Shared → Prop), (v₁, v₂) ∈ xs.zip ys → NsObj oC m₂ → m₂ x = some v₁ → m₂ y = some v₂ → Fr h₀ L h m →
      News h₀ L h ((C, oC) :: (D, lst zs) :: (z, oz) :: (TI, oTI) :: (TO, oTO) :: (i1, o1) :: (i2, o2) :: news) →
      wpAny (model prog w) A (eval elt (compEnvC scope cl C env)) (TEnd h₀ L m { s with heap := h, toks := tk } (f v₁ v₂) ((C, oC) :: (D, lst zs) :: (z, oz) :: (TI, oTI) :: (TO, oTO) :: (i1, o1) :: (i2, o2) :: news)) E' { s with heap := h, toks := tk })
    (fin : ∀ D h tk l, l.map (·.1) = (xs.zip ys).map (fun p => f p.1 p.2) → Fr h₀ L h m → News h₀ L h ((D, lst (strValues l)) :: news) → Q (.ref D) { s with heap := h, toks := tk }) :
    wpAny (model prog w) A (eval (.ListComp elt [⟨.Tuple [.Name x px, .Name y py] kk tp, iter, [], 0⟩] scope pos) env) Q E s := by
  rw [eval_ListComp]
  refine wpAny_comprehension_free (use := none) rfl hs hclos hkind hnames (wpAny_mono hi (fun xv s₁ h₁ => ?_) fun _ _ e => e)
  obtain ⟨z, h', tk', rfl, rfl, ⟨TI, TO, i1, i2, ap, hz, hTI, hTO, h1, h2, hS, off⟩, F, N⟩ := h₁
  refine wpAny_pyIter_zip hz ?_
  refine block_zip (news := news) (f := f) (xs := xs) (ys := ys) (k1 := k1) (k2 := k2) hh hxy hn hcell hkind hx hy ap hz hTI hTO h1 h2 F N hm1 hm2 hS off ?_ ?_
  · intro v₁ v₂ oz oTI oTO o1 o2 C oC D m₂ zs h tk E' a b c d e g
    exact turn z TI TO i1 i2 v₁ v₂ oz oTI oTO o1 o2 C oC D m₂ zs h tk E' a b c d e g
  · intro D C h tk m' l F' N' hn hC₀ hD₀ hCL hDL hCD offC hl
    refine ⟨m', hn, fun h'' hs'' => fin D h'' tk l hl (F'.change hs'' hCL hC₀) (news_same N' hs'' fun p hp => ?_)⟩
    rcases List.mem_cons.mp hp with rfl | hp
    · exact Ne.symm hCD
    · exact offC p hp
end
end Mine
end
-- P
section
open PySem PySem.W PyProof.Rows
namespace Mine
def endS (n : Int) : Str := if n.fmod 3 = 0 then Str.ofString "\r\n" else if n.fmod 3 = 1 then Str.ofString "\n" else Str.ofString "\r"
def rowEndT (r : Str) (n : Int) : Str := r ++ endS n
def rowEnd (v₁ v₂ : Value) : Str := match v₁, v₂ with
  | .str r _, .int n _ => rowEndT r n
  | _, _ => ⟨#[]⟩
theorem eol0 {r : Str} {n : Int} {t u : Tok} (h : n.fmod 3 = 0) : r ++ Str.ofString "\r\n" = rowEnd (.str r t) (.int n u) := by
  show _ = r ++ endS n
  unfold endS
  rw [if_pos h]
theorem eol1 {r : Str} {n : Int} {t u : Tok} (h : n.fmod 3 = 1) : r ++ Str.ofString "\n" = rowEnd (.str r t) (.int n u) := by
  show _ = r ++ endS n
  unfold endS
  rw [if_neg (by omega), if_pos h]
theorem eol2 {r : Str} {n : Int} {t u : Tok} (h : n.fmod 3 = 2) : r ++ Str.ofString "\r" = rowEnd (.str r t) (.int n u) := by
  show _ = r ++ endS n
  unfold endS
  rw [if_neg (by omega), if_neg (by omega)]
theorem zip_texts : ∀ {lr : List (Str × Tok)} {ws : List Value} {E : List Int}, IntsAre ws E → ((strValues lr).zip ws).map (fun p => rowEnd p.1 p.2) = List.zipWith rowEndT (lr.map (·.1)) E
  | [], _, _, _ => by simp [strValues]
  | _ :: _, _, _, .nil => by simp
  | p :: lr, _, _, .cons n t h => by
    have ih := zip_texts (lr := lr) h
    simp only [strValues, List.map_cons, List.zip_cons_cons, List.zipWith_cons_cons] at ih ⊢
    rw [ih]
    rfl
theorem rows0_len : ∀ r ∈ rowsT 0 0, r.length ≤ 11 := by decide +kernel
theorem rows0_count : (rowsT 0 0).length = 11 := by decide +kernel
theorem zip_item {lr : List (Str × Tok)} {ws : List Value} {E : List Int} {v₁ v₂ : Value} (hl : lr.map (·.1) = rowsT 0 0) (hI : IntsAre ws E) (h : (v₁, v₂) ∈ (strValues lr).zip ws) :
    (∃ r t, v₁ = .str r t ∧ r.length ≤ 11) ∧ ∃ n t, v₂ = .int n t := by
  obtain ⟨h1, h2⟩ := List.of_mem_zip h
  constructor
  · obtain ⟨p, hp, rfl⟩ := List.mem_map.mp h1
    exact ⟨p.1, p.2, rfl, rows0_len _ (hl ▸ List.mem_map.mpr ⟨p, hp, rfl⟩)⟩
  · obtain ⟨i, hi⟩ := List.getElem?_of_mem h2
    obtain ⟨n, t, e, _⟩ := ints_item hI hi
    exact ⟨n, t, e⟩
theorem zip_count {lr : List (Str × Tok)} {ws : List Value} (hl : lr.map (·.1) = rowsT 0 0) : ((strValues lr).zip ws).length ≤ 1000 := by
  have h1 := congrArg List.length hl
  rw [rows0_count, List.length_map] at h1
  rw [List.length_zip]
  simp only [strValues, List.length_map]
  omega
def ZEnd (h₀ : Heap) (L : Addr) (m : Str → Option Value) (s : Shared) (l1 l2 : Addr) (news : List (Addr × Obj)) (v : Value) (s₁ : Shared) : Prop :=
  ∃ z h' tk', v = .ref z ∧ s₁ = { s with heap := h', toks := tk' } ∧ ZipOn h₀ L h' z l1 l2 news ∧ Fr h₀ L h' m ∧ News h₀ L h' news
theorem zend_of {h₀ h' : Heap} {L z l1 l2 : Addr} {m : Str → Option Value} {s : Shared} {news : List (Addr × Obj)} {tk' : Nat} (h : ZipOn h₀ L h' z l1 l2 news) (F : Fr h₀ L h' m) (N : News h₀ L h' news) : ZEnd h₀ L m s l1 l2 news (.ref z) { s with heap := h', toks := tk' } :=
  ⟨z, h', tk', rfl, rfl, h, F, N⟩
/-- the mail before its ends are made alike -/
def mixed (E : List Int) : Str := Str.join ⟨#[]⟩ (List.zipWith rowEndT (rowsT 0 0) E)
theorem endS_len (n : Int) : (endS n).length ≤ 2 := by
  unfold endS
  split
  · decide +kernel
  · split <;> decide +kernel
theorem mixed_sum : ∀ (R : List Str) (E : List Int), (∀ r ∈ R, r.length ≤ 11) → ((List.zipWith rowEndT R E).map (·.length)).sum ≤ 13 * R.length
  | [], _, _ => by simp
  | _ :: _, [], _ => by simp
  | r :: R, n :: E, h => by
    have ih := mixed_sum R E fun x hx => h x (.tail _ hx)
    have h1 := h r (.head _)
    have h2 := endS_len n
    have h3 : (rowEndT r n).length = r.length + (endS n).length := Str.length_append _ _
    simp only [List.zipWith_cons_cons, List.map_cons, List.sum_cons, List.length_cons]
    omega
theorem mixed_joinOk (E : List Int) : JoinOk (Str.ofString "") (List.zipWith rowEndT (rowsT 0 0) E) = true := by
  have h1 := mixed_sum (rowsT 0 0) E rows0_len
  rw [rows0_count] at h1
  unfold JoinOk
  rw [StrLaws.joinTotal]
  have h4 : (Str.ofString "").length = 0 := by decide +kernel
  have h5 : sizeLine = 16777216 := by decide
  rw [h4]
  show (!decide _) = true
  rw [decide_eq_false (by omega)]
  rfl
theorem mixed_len (E : List Int) : (mixed E).length ≤ 143 := by
  have h1 := mixed_sum (rowsT 0 0) E rows0_len
  rw [rows0_count] at h1
  have key : ∀ ts : List Str, (Str.join ⟨#[]⟩ ts).length = (ts.map (·.length)).sum := fun ts => by
    show (Str.join ⟨#[]⟩ ts).cps.size = _
    rw [← Array.length_toList, cps_join, List.length_flatMap]
    rfl
  unfold mixed
  rw [key]
  exact h1
def lastR : Str := Str.ofString "..........k"
theorem last_at : (rowsT 0 0)[10]? = some lastR := by decide +kernel
theorem last_K {prog : Program} {w : World} {A : Around} {E : Value → Shared → Prop} {s : Shared} {h₀ : Heap} {L : Addr} {value slice : PySem.Expr} {DR : Addr} {lr : List (Str × Tok)} {news : List (Addr × Obj)} {k : Int} {u : Tok} {Q : Value → Shared → Prop} (N : News h₀ L s.heap news) (hm : (DR, LCg.lst (strValues lr)) ∈ news) (hl : lr.map (·.1) = rowsT 0 0) (hk : k = -1)
    (h : ∀ t, Q (.str lastR t) s)
    (hs : subscripted slice false (.ref DR) (.int k u) = operate [.ref DR, .int k u] (getItem (.ref DR) (.int k u)) := by with_unfolding_all rfl) :
    wpAny (model prog w) A (subscriptTail value slice (.ref DR) (.int k u)) Q E s := by
  have h1 := congrArg List.length hl
  rw [rows0_count, List.length_map] at h1
  have h2 : (lr.map (·.1))[10]? = some lastR := by rw [hl]; exact last_at
  rw [List.getElem?_map] at h2
  obtain ⟨p, hp, e⟩ := Option.map_eq_some_iff.mp h2
  subst hk
  refine kde_neg (j := 10) (v := .str lastR p.2) ⟨_, (N _ hm).1, rfl, _, rfl⟩ (by decide) (by decide) ?_ ?_ (h _) hs
  · have : (strValues lr).length = 11 := by simp [strValues, h1]
    rw [this]
    decide +kernel
  · simp only [strValues, List.getElem?_map, hp, Option.map_some, ← e]
end Mine
end
-- Q
section
open PySem PySem.W PyProof.Rows
namespace Mine
def mailT (l r : Nat) : Str := Txt.join (Str.ofString "\r\n") (rowsT l r)
def joinL : List (List Nat) → List Nat
  | [] => []
  | [r] => r
  | r :: q :: s => r ++ 13 :: 10 :: joinL (q :: s)
def Clean (r : List Nat) : Prop := ∀ c ∈ r, c ≠ 13 ∧ c ≠ 10
theorem fixL_clean : ∀ {l : List Nat}, Clean l → ∀ rest, fixL false (l ++ rest) = l ++ fixL false rest
  | [], _, _ => rfl
  | c :: l, h, rest => by
    have hc := h c (.head _)
    have ih := fixL_clean (l := l) (fun x hx => h x (.tail _ hx)) rest
    simp only [List.cons_append, fixL, hc.1, hc.2, if_false, ih]
theorem fixL_crlf (rest : List Nat) : fixL false (13 :: 10 :: rest) = 13 :: 10 :: fixL false rest := by simp [fixL]
theorem fix_joinL : ∀ {rs : List (List Nat)}, (∀ r ∈ rs, Clean r) → fixL false (joinL rs) = joinL rs
  | [], _ => rfl
  | [r], h => by
    have := fixL_clean (h r (.head _)) []
    simpa [joinL, fixL] using this
  | r :: q :: s, h => by
    have ih := fix_joinL (rs := q :: s) fun x hx => h x (.tail _ hx)
    show fixL false (r ++ 13 :: 10 :: joinL (q :: s)) = _
    rw [fixL_clean (h r (.head _)), fixL_crlf, ih]
    rfl
def dotL (r : List Nat) : List Nat := if r.head? = some 46 then 46 :: r else r
theorem quoteL_clean : ∀ {l : List Nat}, Clean l → ∀ rest, quoteL false (l ++ rest) = l ++ quoteL false rest
  | [], _, _ => rfl
  | c :: l, h, rest => by
    have hc := h c (.head _)
    have ih := quoteL_clean (l := l) (fun x hx => h x (.tail _ hx)) rest
    have h10 : (c == 10) = false := by simpa using hc.2
    simp only [List.cons_append, quoteL, Bool.false_and, h10, ih]
    rfl
theorem quoteL_row {r : List Nat} (h : Clean r) (rest : List Nat) : quoteL true (r ++ 13 :: 10 :: rest) = dotL r ++ 13 :: 10 :: quoteL true rest := by
  cases r with
  | nil => rfl
  | cons c l =>
    have hc := h c (.head _)
    have h10 : (c == 10) = false := by simpa using hc.2
    have hl : Clean l := fun x hx => h x (.tail _ hx)
    have e : quoteL false (l ++ 13 :: 10 :: rest) = l ++ 13 :: 10 :: quoteL true rest := by
      rw [quoteL_clean hl]
      rfl
    by_cases h46 : c = 46
    · subst h46
      simp only [List.cons_append, quoteL, dotL, List.head?_cons, if_true, e]
      rfl
    · have h46' : (c == 46) = false := by simpa using h46
      simp only [List.cons_append, quoteL, dotL, List.head?_cons, Bool.true_and, h46', h10, e, Option.some.injEq, h46, if_false]
      rfl
theorem quoteL_last {r : List Nat} (h : Clean r) : quoteL true r = dotL r := by
  cases r with
  | nil => rfl
  | cons c l =>
    have hc := h c (.head _)
    have h10 : (c == 10) = false := by simpa using hc.2
    have hl : Clean l := fun x hx => h x (.tail _ hx)
    have e : quoteL false l = l := by simpa [quoteL] using quoteL_clean hl []
    by_cases h46 : c = 46
    · subst h46
      simp only [quoteL, dotL, List.head?_cons, if_true, e]
      rfl
    · have h46' : (c == 46) = false := by simpa using h46
      simp only [quoteL, dotL, List.head?_cons, Bool.true_and, h46', h10, e, Option.some.injEq, h46, if_false]
      rfl
theorem quote_joinL : ∀ {rs : List (List Nat)}, (∀ r ∈ rs, Clean r) → quoteL true (joinL rs) = joinL (rs.map dotL)
  | [], _ => rfl
  | [r], h => quoteL_last (h r (.head _))
  | r :: q :: s, h => by
    have ih := quote_joinL (rs := q :: s) fun x hx => h x (.tail _ hx)
    show quoteL true (r ++ 13 :: 10 :: joinL (q :: s)) = _
    rw [quoteL_row (h r (.head _)), ih]
    rfl
theorem fix_eol (n : Int) {c : Nat} (hc : c ≠ 13 ∧ c ≠ 10) (rest : List Nat) : fixL false ((endS n).cps.toList ++ c :: rest) = 13 :: 10 :: fixL false (c :: rest) := by
  have h1 : (Str.ofString "\r\n").cps.toList = [13, 10] := by decide +kernel
  have h2 : (Str.ofString "\n").cps.toList = [10] := by decide +kernel
  have h3 : (Str.ofString "\r").cps.toList = [13] := by decide +kernel
  unfold endS
  split
  · rw [h1]
    exact fixL_crlf _
  · split
    · rw [h2]
      simp [fixL]
    · rw [h3]
      simp [fixL, hc.1, hc.2]
theorem fix_mixed : ∀ (R : List (List Nat)) (E : List Int) (last : List Nat), R.length = E.length → (∀ r ∈ R, Clean r ∧ r ≠ []) → Clean last → last ≠ [] →
    fixL false ((List.zipWith (fun r n => r ++ (endS n).cps.toList) R E).flatten ++ last) = joinL (R ++ [last])
  | [], _, last, _, _, hc, _ => by
    have := fixL_clean hc []
    simpa [joinL, fixL] using this
  | r :: R, [], _, h, _, _, _ => by simp at h
  | r :: R, n :: E, last, h, hR, hc, hne => by
    have ih := fix_mixed R E last (by simpa using h) (fun x hx => hR x (.tail _ hx)) hc hne
    obtain ⟨c, rest, hrest, hcc⟩ : ∃ c rest, (List.zipWith (fun r n => r ++ (endS n).cps.toList) R E).flatten ++ last = c :: rest ∧ c ≠ 13 ∧ c ≠ 10 := by
      cases R with
      | nil =>
        cases last with
        | nil => exact absurd rfl hne
        | cons c l => exact ⟨c, l, by simp, hc c (.head _)⟩
      | cons q R =>
        cases E with
        | nil => simp at h
        | cons k E =>
          have hq := hR q (.tail _ (.head _))
          cases q with
          | nil => exact absurd rfl hq.2
          | cons c l => exact ⟨c, _, rfl, hq.1 c (.head _)⟩
    rw [List.zipWith_cons_cons, List.flatten_cons, List.append_assoc, List.append_assoc, fixL_clean (hR r (.head _)).1, hrest, fix_eol n hcc, ← hrest, ih]
    cases R <;> rfl
end Mine
end
-- W
section
open PySem PySem.W PyProof.Rows
namespace Mine
def turnBN (k : Int) : Int := 7 - (k.fmod 2 * 4 + (k.fdiv 2).fmod 2 * 2 + (k.fdiv 4).fmod 2)
theorem signT_two (b : Nat) (k : Nat) : signT ((b : Nat) : Int) k = if (b / 2 ^ (2 - (k : Int)).toNat) % 2 = 0 then Str.ofString "-" else Txt.item (Str.ofString "rwx") k := by
  have h : Builtin.bitAnd (((b : Nat) : Int).fdiv (2 ^ (2 - (k : Int)).toNat)) 1 = (((b / 2 ^ (2 - (k : Int)).toNat) % 2 : Nat) : Int) := by
    rw [bitAnd_m1, Int.fdiv_eq_ediv_of_nonneg _ (Int.pow_nonneg (by decide))]
    simp
  unfold signT
  rw [h]
  by_cases h2 : (b / 2 ^ (2 - (k : Int)).toNat) % 2 = 0
  · rw [if_pos h2, if_pos (by rw [h2]; rfl)]
  · rw [if_neg h2, if_neg (by omega)]
theorem signT_mod : ∀ b < 512, ∀ k < 3, signT ((b : Nat) : Int) k = signT (((b % 8 : Nat)) : Int) k := by
  intro b _ k hk
  rw [signT_two, signT_two]
  have e : (b / 2 ^ (2 - (k : Int)).toNat) % 2 = (b % 8 / 2 ^ (2 - (k : Int)).toNat) % 2 := by
    match k, hk with
    | 0, _ => show b / 4 % 2 = b % 8 / 4 % 2; omega
    | 1, _ => show b / 2 % 2 = b % 8 / 2 % 2; omega
    | 2, _ => show b / 1 % 2 = b % 8 / 1 % 2; omega
  rw [e]
theorem turnB_mod : ∀ b < 512, turnBN ((b : Nat) : Int) = turnBN (((b % 8 : Nat)) : Int) := by
  intro b _
  unfold turnBN
  simp only [Int.fmod_eq_emod_of_nonneg _ (show (0 : Int) ≤ 2 by decide), Int.fdiv_eq_ediv_of_nonneg _ (show (0 : Int) ≤ 2 by decide), Int.fdiv_eq_ediv_of_nonneg _ (show (0 : Int) ≤ 4 by decide)]
  omega
def stepN (p : Nat × Nat) (c : Nat) : Nat × Nat := if c = 45 then (if 0 < p.2 then (p.1, p.2 - 1) else (p.1 + 1, 0)) else (p.1, p.2 + 1)
def goN (p : Nat × Nat) (cs : List Nat) : Nat × Nat := cs.foldl stepN p
/-- the codes of three numbers' signs -/
def word (a b c : Nat) : List Nat := (signsT [(a : Int), (b : Int), (c : Int)]).cps.toList
def word' (a b c : Nat) : List Nat := (signsT [turnBN (c : Int), turnBN (b : Int), turnBN (a : Int)]).cps.toList
/-- the code of a sign -/
def tabN (b k : Nat) : Nat := if (b / 2 ^ (2 - k)) % 2 = 0 then 45 else 114 + (if k = 0 then 0 else 4 + k)
def wordN (a b c : Nat) : List Nat := [tabN a 0, tabN a 1, tabN a 2, tabN b 0, tabN b 1, tabN b 2, tabN c 0, tabN c 1, tabN c 2]
def flipN (b : Nat) : Nat := 7 - (b % 2 * 4 + b / 2 % 2 * 2 + b / 4 % 2)
theorem sign_code : ∀ b < 8, ∀ k < 3, (signT ((b : Nat) : Int) k).cps.toList = [tabN b k] := by decide +kernel
theorem flip_code : ∀ b < 8, turnBN ((b : Nat) : Int) = ((flipN b : Nat) : Int) ∧ flipN b < 8 := by decide +kernel
theorem codes_N (a b c : Nat) (ha : a < 8) (hb : b < 8) (hc : c < 8) : (signsT [(a : Int), (b : Int), (c : Int)]).cps.toList = wordN a b c := by
  unfold signsT
  rw [cps_join]
  have e : signsL [(a : Int), (b : Int), (c : Int)] = [signT a 0, signT a 1, signT a 2, signT b 0, signT b 1, signT b 2, signT c 0, signT c 1, signT c 2] := rfl
  rw [e]
  simp only [List.flatMap_cons, List.flatMap_nil, sign_code a ha 0 (by decide), sign_code a ha 1 (by decide), sign_code a ha 2 (by decide), sign_code b hb 0 (by decide), sign_code b hb 1 (by decide), sign_code b hb 2 (by decide), sign_code c hc 0 (by decide), sign_code c hc 1 (by decide), sign_code c hc 2 (by decide)]
  rfl
theorem word_N {a b c : Nat} (ha : a < 8) (hb : b < 8) (hc : c < 8) : word a b c = wordN a b c := codes_N a b c ha hb hc
theorem word'_N {a b c : Nat} (ha : a < 8) (hb : b < 8) (hc : c < 8) : word' a b c = wordN (flipN c) (flipN b) (flipN a) := by
  unfold word'
  rw [(flip_code a ha).1, (flip_code b hb).1, (flip_code c hc).1]
  exact codes_N _ _ _ (flip_code c hc).2 (flip_code b hb).2 (flip_code a ha).2
theorem back_N : ∀ a < 8, ∀ b < 8, ∀ c < 8, goN (goN (0, 0) (wordN a b c)) (wordN (flipN c) (flipN b) (flipN a)) = ((goN (0, 0) (wordN a b c)).1, (goN (0, 0) (wordN a b c)).1) := by decide +kernel
theorem words_back : ∀ a < 8, ∀ b < 8, ∀ c < 8, goN (goN (0, 0) (word a b c)) (word' a b c) = ((goN (0, 0) (word a b c)).1, (goN (0, 0) (word a b c)).1) := by
  intro a ha b hb c hc
  rw [word_N ha hb hc, word'_N ha hb hc]
  exact back_N a ha b hb c hc
theorem words_len : ∀ a < 8, ∀ b < 8, ∀ c < 8, (word a b c).length = 9 ∧ (word' a b c).length = 9 := by
  intro a ha b hb c hc
  rw [word_N ha hb hc, word'_N ha hb hc]
  exact ⟨rfl, rfl⟩
end Mine
end
-- X
section
open PySem PySem.W PyProof.Rows
namespace Mine
theorem cps_joinCrlf (ts : List Str) : (Txt.join (Str.ofString "\r\n") ts).cps.toList = joinL (ts.map (·.cps.toList)) := by
  have h1 : (Str.ofString "\r\n").cps.toList = [13, 10] := by decide +kernel
  have e : Txt.join (Str.ofString "\r\n") ts = Str.join (Str.ofString "\r\n") ts := StrLaws.glued_eq_join _ _
  rw [e]
  induction ts with
  | nil => rfl
  | cons a r ih =>
    cases r with
    | nil => rfl
    | cons b r =>
      have e : Str.join (Str.ofString "\r\n") (a :: b :: r) = a ++ Str.ofString "\r\n" ++ Str.join (Str.ofString "\r\n") (b :: r) := rfl
      rw [e]
      show (a.cps ++ (Str.ofString "\r\n").cps ++ (Str.join (Str.ofString "\r\n") (b :: r)).cps).toList = _
      rw [Array.toList_append, Array.toList_append, ih (StrLaws.glued_eq_join _ _), h1]
      simp [joinL]
end Mine
end
-- X2
section
open PySem PySem.W PyProof.Rows
namespace Mine
def rowL (k d : Nat) : List Nat := List.replicate k 46 ++ [97 + d]
theorem row_cps : ∀ k < 30, ∀ d < 11, (Txt.mul (Str.ofString ".") ((k : Nat) : Int) ++ Txt.item (Str.ofString "abcdefghijk") ((d : Nat) : Int)).cps.toList = rowL k d := by decide +kernel
theorem row_clean (k d : Nat) : Clean (rowL k d) := by
  intro c hc
  rcases List.mem_append.mp hc with hc | hc
  · rw [List.eq_of_mem_replicate hc]; decide
  · rw [List.mem_singleton.mp hc]; omega
theorem row_dot (k d : Nat) : dotL (rowL (k + 1) d) = rowL (k + 2) d := by
  simp [dotL, rowL, List.replicate_succ]
theorem row_bare (d : Nat) : dotL (rowL 0 d) = rowL 0 d := by
  simp [dotL, rowL]
  omega
def dots (l r d : Nat) : Nat := if l < d then d - l + r else 0
theorem rowT_cps {l r d : Nat} (hr : r ≤ 18) (hd : d < 11) : (rowT (l : Int) (r : Int) (d : Int)).cps.toList = rowL (dots l r d) d := by
  unfold rowT dots
  by_cases h : l < d
  · rw [if_pos (by omega), if_pos h]
    have e : (d : Int) - (l : Int) + (r : Int) = ((d - l + r : Nat) : Int) := by omega
    rw [e]
    exact row_cps _ (by omega) _ hd
  · rw [if_neg (by omega), if_neg h]
    exact row_cps 0 (by omega) _ hd
def rowsL (l r : Nat) : List (List Nat) := (List.range 11).map fun d => rowL (dots l r d) d
theorem rowsT_cps {l r : Nat} (hr : r ≤ 18) : (rowsT l r).map (·.cps.toList) = rowsL l r := by
  unfold rowsT rowsL
  rw [List.map_map]
  refine List.map_congr_left fun d hd => rowT_cps hr (by simpa using hd)
theorem rowsL_clean (l r : Nat) : ∀ x ∈ rowsL l r, Clean x := by
  intro x hx
  obtain ⟨d, _, rfl⟩ := List.mem_map.mp hx
  exact row_clean _ _
theorem rowsL_dot (l r : Nat) : (rowsL l r).map dotL = rowsL l (r + 1) := by
  unfold rowsL
  rw [List.map_map]
  refine List.map_congr_left fun d hd => ?_
  show dotL (rowL (dots l r d) d) = rowL (dots l (r + 1) d) d
  unfold dots
  by_cases h : l < d
  · rw [if_pos h, if_pos h]
    obtain ⟨k, hk⟩ : ∃ k, d - l + r = k + 1 := ⟨d - l + r - 1, by omega⟩
    rw [hk, row_dot, show d - l + (r + 1) = k + 2 by omega]
  · rw [if_neg h, if_neg h]
    exact row_bare d
theorem mailT_cps {l r : Nat} (hr : r ≤ 18) : (mailT l r).cps.toList = joinL (rowsL l r) := by
  unfold mailT
  rw [cps_joinCrlf, rowsT_cps hr]
theorem quote_mail {l r : Nat} (hr : r ≤ 17) : quoteS (mailT l r) = mailT l (r + 1) := by
  refine str_ext ?_
  rw [mailT_cps (by omega)]
  show (quoteL true (fixL false (mailT l r).cps.toList)).toArray.toList = _
  rw [mailT_cps (by omega), fix_joinL (rowsL_clean l r), quote_joinL (rowsL_clean l r), rowsL_dot]
end Mine
end
-- X3
section
open PySem PySem.W PyProof.Rows
namespace Mine
theorem zw_cps : ∀ (R : List Str) (E : List Int), (List.zipWith rowEndT R E).flatMap (·.cps.toList) = (List.zipWith (fun r n => r ++ (endS n).cps.toList) (R.map (·.cps.toList)) E).flatten
  | [], _ => by simp
  | _ :: _, [] => by simp
  | r :: R, n :: E => by
    have ih := zw_cps R E
    have e : (rowEndT r n).cps.toList = r.cps.toList ++ (endS n).cps.toList := by
      show (r.cps ++ (endS n).cps).toList = _
      rw [Array.toList_append]
    simp only [List.zipWith_cons_cons, List.flatMap_cons, List.map_cons, List.flatten_cons, ih, e]
theorem zw_take {α β γ : Type} (f : α → β → γ) : ∀ (R : List α) (E : List β), List.zipWith f R E = List.zipWith f (R.take E.length) E
  | [], _ => by simp
  | _ :: _, [] => by simp
  | r :: R, n :: E => by simp only [List.zipWith_cons_cons, List.length_cons, List.take_succ_cons]; rw [zw_take f R E]
theorem fix_all {E : List Int} (h : E.length = 10) : fixS (mixed E ++ lastR) = mailT 0 0 := by
  refine str_ext ?_
  rw [mailT_cps (by omega)]
  show (fixL false ((mixed E).cps ++ lastR.cps).toList).toArray.toList = _
  have e1 : lastR.cps.toList = rowL 10 10 := by decide +kernel
  have e2 : rowsL 0 0 = (rowsL 0 0).take 10 ++ [rowL 10 10] := by decide +kernel
  rw [Array.toList_append, e1]
  unfold mixed
  rw [cps_join, zw_cps, rowsT_cps (by omega), zw_take, h]
  rw [show (fixL false ((List.zipWith (fun r n => r ++ (endS n).cps.toList) ((rowsL 0 0).take 10) E).flatten ++ rowL 10 10)).toArray.toList = fixL false ((List.zipWith (fun r n => r ++ (endS n).cps.toList) ((rowsL 0 0).take 10) E).flatten ++ rowL 10 10) from rfl]
  rw [fix_mixed _ _ _ (by rw [h]; rfl) ?_ (row_clean _ _) (by decide), ← e2]
  intro r hr
  have hr' := List.mem_of_mem_take hr
  refine ⟨rowsL_clean _ _ _ hr', ?_⟩
  obtain ⟨d, _, rfl⟩ := List.mem_map.mp hr'
  simp [rowL]
end Mine
end
-- X4
section
open PySem PySem.W PyProof.Rows
namespace Mine
open StrLaws Builtin.Str
abbrev crlf : Str := Str.ofString "\r\n"
theorem crlf_cps : crlf.cps.toList = [13, 10] := by decide +kernel
theorem crlf_len : crlf.length = 2 := by decide +kernel
theorem at_iff (x : Str) (i : Nat) : At x crlf x.length i ↔ (x.cps.toList.drop i).take 2 = [13, 10] := by
  unfold At
  rw [subAt_eq, crlf_cps, crlf_len]
  constructor
  · rintro ⟨_, h⟩
    simpa using h
  · intro h
    refine ⟨?_, by simpa using h⟩
    have h2 := congrArg List.length h
    simp only [List.length_take, List.length_drop, List.length_cons, List.length_nil] at h2
    have h3 : x.cps.toList.length = x.length := Array.length_toList
    omega
theorem at_row {x : Str} {a : Nat} {r t : List Nat} (h : x.cps.toList.drop a = r ++ t) (hr : Clean r) (k : Nat) (h1 : a ≤ k) (h2 : k < a + r.length) : ¬ At x crlf x.length k := by
  rw [at_iff]
  intro e
  have hd : x.cps.toList.drop k = (r ++ t).drop (k - a) := by
    rw [← h, List.drop_drop]
    congr 1
    omega
  rw [hd, List.drop_append_of_le_length (by omega)] at e
  cases hq : r.drop (k - a) with
  | nil =>
    have := congrArg List.length hq
    simp at this
    omega
  | cons c q =>
    rw [hq] at e
    have hc : c ∈ r := List.mem_of_mem_drop (i := k - a) (by rw [hq]; exact .head _)
    have := hr c hc
    simp only [List.cons_append, List.take_succ_cons, List.cons.injEq] at e
    exact this.1 e.1
theorem split_parts (x : Str) : ∀ (rs : List (List Nat)) (a : Nat) (cuts : List Nat) (f : Nat), rs ≠ [] → (∀ r ∈ rs, Clean r) → x.cps.toList.drop a = joinL rs → a ≤ x.length →
    ChainG x crlf x.length a cuts f → (∀ k, f ≤ k → ¬ At x crlf x.length k) → (((a :: cuts.map (· + 2)).zip (cuts ++ [x.length])).map fun p => (strSub x p.1 p.2).cps.toList) = rs
  | [], _, _, _, h, _, _, _, _, _ => absurd rfl h
  | [r], a, cuts, f, _, hc, hd, ha, hch, hn => by
    have hd' : x.cps.toList.drop a = r ++ [] := by simpa [joinL] using hd
    have h3 : x.cps.toList.length = x.length := Array.length_toList
    have hlen : x.length = a + r.length := by
      have := congrArg List.length hd'
      simp only [List.length_drop, List.length_append, List.length_nil] at this
      omega
    cases cuts with
    | nil =>
      show [(strSub x a x.length).cps.toList] = [r]
      rw [strSub_toList, hd', List.append_nil, List.take_of_length_le (by omega)]
    | cons c cs =>
      have hA := hch.2.1
      have h1 := hA.1
      rw [crlf_len] at h1
      exact absurd hA (at_row hd' (hc r (.head _)) c hch.1 (by omega))
  | r :: q :: s, a, cuts, f, _, hc, hd, ha, hch, hn => by
    have hd' : x.cps.toList.drop a = r ++ 13 :: 10 :: joinL (q :: s) := hd
    have h3 : x.cps.toList.length = x.length := Array.length_toList
    have hlen : x.length = a + r.length + 2 + (joinL (q :: s)).length := by
      have := congrArg List.length hd'
      simp only [List.length_drop, List.length_append, List.length_cons] at this
      omega
    have hdp : x.cps.toList.drop (a + r.length) = 13 :: 10 :: joinL (q :: s) := by
      rw [← List.drop_drop, hd']
      simp
    have hA : At x crlf x.length (a + r.length) := by
      rw [at_iff, hdp]
      rfl
    cases cuts with
    | nil =>
      have : f = a := hch
      exact absurd hA (hn _ (by omega))
    | cons c cs =>
      have hcp : c = a + r.length := by
        rcases Nat.lt_trichotomy c (a + r.length) with h | h | h
        · exact absurd hch.2.1 (at_row hd' (hc r (.head _)) c hch.1 h)
        · exact h
        · exact absurd hA (hch.2.2.1 _ (by omega) h)
      subst hcp
      have hd2 : x.cps.toList.drop (a + r.length + 2) = joinL (q :: s) := by
        rw [← List.drop_drop, hdp]
        rfl
      have hch2 := hch.2.2.2
      rw [crlf_len] at hch2
      have ih := split_parts x (q :: s) (a + r.length + 2) cs f (by simp) (fun y hy => hc y (.tail _ hy)) hd2 (by omega) hch2 hn
      show (strSub x a (a + r.length)).cps.toList :: _ = _
      rw [strSub_toList, hd', show a + r.length - a = r.length by omega, List.take_left]
      exact congrArg _ ih
theorem split_clean (x : Str) {rs : List (List Nat)} (h0 : rs ≠ []) (h1 : ∀ r ∈ rs, Clean r) (hx : x.cps.toList = joinL rs) (hk : strKind x = 1) : (Txt.split x crlf).map (·.cps.toList) = rs := by
  obtain ⟨f, hch, hn⟩ := occ_tight x crlf (by rw [crlf_len]; omega)
  have key := split_parts x rs 0 _ f h0 h1 (by simpa using hx) (Nat.zero_le _) hch hn
  unfold Txt.split
  have hkc : strKind crlf = 1 := by decide +kernel
  rw [hk, hkc]
  by_cases hlt : x.length < crlf.length
  · have ho : occurrences x crlf 0 x.length (x.length + 1) = [] := by
      cases hq : occurrences x crlf 0 x.length (x.length + 1) with
      | nil => rfl
      | cons c cs =>
        rw [hq] at hch
        have := hch.2.1.1
        omega
    rw [ho] at key
    rw [if_pos (by simp [hlt])]
    rw [← key]
    show [x.cps.toList] = [(strSub x 0 x.length).cps.toList]
    rw [strSub_toList, List.drop_zero, Nat.sub_zero, List.take_of_length_le (show x.cps.toList.length ≤ x.length from Nat.le_of_eq Array.length_toList)]
  · rw [if_neg (by simp [hlt])]
    split
    · rename_i he
      rw [List.isEmpty_iff.mp he] at key
      rw [← key]
      show [x.cps.toList] = [(strSub x 0 x.length).cps.toList]
      rw [strSub_toList, List.drop_zero, Nat.sub_zero, List.take_of_length_le (show x.cps.toList.length ≤ x.length from Nat.le_of_eq Array.length_toList)]
    · rw [← key]
      unfold partsBetween
      rw [crlf_len, List.map_map]
      rfl
end Mine
end
-- X5
section
open PySem PySem.W PyProof.Rows
namespace Mine
theorem dot_cps : Str.ofString "." = ⟨#[46]⟩ := by decide +kernel
theorem head_slice (c : Nat) (r : List Nat) : Txt.slice ⟨(c :: r).toArray⟩ none (some 1) = ⟨#[c]⟩ := by
  have h := slice_closes_toL (x := ⟨(c :: r).toArray⟩) (j := 1) (by decide) (by show (1 : Int) ≤ ((c :: r).toArray.size : Nat); rw [List.size_toArray, List.length_cons]; omega)
  exact beq_iff_eq.mp h
theorem tail_slice (c : Nat) (r : List Nat) : (Txt.slice ⟨(c :: r).toArray⟩ (some 1) none).cps.toList = r := by
  have hl : (Str.mk (c :: r).toArray).length = r.length + 1 := by show (c :: r).toArray.size = _; simp
  have h := slice_closes_fromL (x := ⟨(c :: r).toArray⟩) (i := 1) (b := ((r.length + 1 : Nat) : Int)) (by decide) (by rw [hl]; omega) (by rw [hl])
  rw [beq_iff_eq.mp h]
  show ((c :: r).drop 1).take _ = r
  rw [List.drop_one, List.tail_cons, List.take_of_length_le (by omega)]
theorem bare_row : ∀ k < 30, ∀ d < 11, (bareS ⟨(rowL k d).toArray⟩).cps.toList = rowL (k - 1) d := by
  intro k _ d _
  unfold bareS
  cases k with
  | zero =>
    have e : rowL 0 d = [97 + d] := rfl
    rw [e, head_slice, dot_cps, if_neg]
    · intro h
      have h1 := beq_iff_eq.mp h
      injection h1 with h1
      injection h1 with h1
      injection h1 with h1
      omega
  | succ k =>
    have e : rowL (k + 1) d = 46 :: rowL k d := rfl
    rw [e, head_slice, dot_cps, if_pos (beq_self_eq_true _), tail_slice]
    rfl
theorem joinL_small : ∀ {rs : List (List Nat)}, (∀ r ∈ rs, ∀ c ∈ r, c < 256) → ∀ c ∈ joinL rs, c < 256
  | [], _, _, h => nomatch h
  | [r], h, c, hc => h r (.head _) c hc
  | r :: q :: s, h, c, hc => by
    have ih := joinL_small (rs := q :: s) fun x hx => h x (.tail _ hx)
    rcases List.mem_append.mp hc with hc | hc
    · exact h r (.head _) c hc
    · simp only [List.mem_cons] at hc
      rcases hc with rfl | rfl | hc
      · decide
      · decide
      · exact ih c hc
theorem rowsL_small (l r : Nat) : ∀ x ∈ rowsL l r, ∀ c ∈ x, c < 256 := by
  intro x hx c hc
  obtain ⟨d, hd, rfl⟩ := List.mem_map.mp hx
  have hd' : d < 11 := by simpa using hd
  rcases List.mem_append.mp hc with hc | hc
  · rw [List.eq_of_mem_replicate hc]; decide
  · rw [List.mem_singleton.mp hc]; omega
theorem mailT_kind {l r : Nat} (hr : r ≤ 18) : Builtin.Str.strKind (mailT l r) = 1 := by
  unfold Builtin.Str.strKind
  rw [if_pos]
  rw [Array.all_eq_true_iff_forall_mem]
  intro c hc
  have := joinL_small (rowsL_small l r) c (by rw [← mailT_cps hr]; simpa using hc)
  simpa using this
theorem rowsL_ne (l r : Nat) : rowsL l r ≠ [] := by
  intro h
  have := congrArg List.length h
  simp [rowsL] at this
theorem split_mail {l r : Nat} (hr : r ≤ 18) : (Txt.split (mailT l r) crlf).map (·.cps.toList) = rowsL l r :=
  split_clean _ (rowsL_ne l r) (rowsL_clean l r) (mailT_cps hr) (mailT_kind hr)
theorem split_rows {l r : Nat} (hr : r ≤ 18) : Txt.split (mailT l r) crlf = rowsT l r := by
  have e := (split_mail hr (l := l)).trans (rowsT_cps hr (l := l)).symm
  exact List.map_inj_right (fun a b h => str_ext h) |>.mp e
theorem bare_rows {l r : Nat} (hr : r ≤ 18) : ((rowsT l r).map bareS).map (·.cps.toList) = if 0 < r then rowsL l (r - 1) else rowsL (l + 1) 0 := by
  have e : (rowsT l r).map bareS = (rowsL l r).map fun x => bareS ⟨x.toArray⟩ := by
    rw [← rowsT_cps hr, List.map_map]
    refine List.map_congr_left fun t _ => ?_
    rfl
  rw [e]
  unfold rowsL
  rw [List.map_map, List.map_map]
  have key : ∀ d, d < 11 → (bareS ⟨(rowL (dots l r d) d).toArray⟩).cps.toList = rowL (dots l r d - 1) d := fun d hd => bare_row _ (by unfold dots; split <;> omega) d hd
  split
  · refine List.map_congr_left fun d hd => ?_
    have hd' : d < 11 := by simpa using hd
    refine (key d hd').trans ?_
    congr 1
    unfold dots
    split <;> omega
  · refine List.map_congr_left fun d hd => ?_
    have hd' : d < 11 := by simpa using hd
    refine (key d hd').trans ?_
    congr 1
    unfold dots
    split <;> split <;> omega
theorem unquote_mail {l r : Nat} (hr : r ≤ 18) : unquoteS (mailT l r) = if 0 < r then mailT l (r - 1) else mailT (l + 1) 0 := by
  refine str_ext ?_
  unfold unquoteS
  rw [cps_joinCrlf, split_rows hr, bare_rows hr]
  split
  · rw [mailT_cps (by omega)]
  · rw [mailT_cps (by omega)]
end Mine
end
-- Y
section
open PySem PySem.W PyProof.Rows
namespace Mine
/-- the mail after a prefix of the signs, begun at p0 -/
def JJ (p0 : Nat × Nat) (cs : List Nat) (pre : List Int) (m : Str) : Prop :=
  ∃ a b, cs = a ++ b ∧ pre = a.map (fun (c : Nat) => (c : Int)) ∧ m = mailT (goN p0 a).1 (goN p0 a).2
theorem goN_snoc (p : Nat × Nat) (a : List Nat) (c : Nat) : goN p (a ++ [c]) = stepN (goN p a) c := by
  unfold goN
  rw [List.foldl_append]
  rfl
theorem goN_le : ∀ (a : List Nat) (p : Nat × Nat), (goN p a).1 + (goN p a).2 ≤ p.1 + p.2 + a.length
  | [], p => Nat.le_refl _
  | c :: a, p => by
    have ih := goN_le a (stepN p c)
    have h1 : (stepN p c).1 + (stepN p c).2 ≤ p.1 + p.2 + 1 := by
      unfold stepN
      split
      · split
        · dsimp only; omega
        · dsimp only; omega
      · dsimp only; omega
    show (goN (stepN p c) a).1 + (goN (stepN p c) a).2 ≤ _
    simp only [List.length_cons]
    omega
theorem rowL_length (k d : Nat) : (rowL k d).length = k + 1 := by simp [rowL]
theorem joinL_length : ∀ {rs : List (List Nat)} {n : Nat}, (∀ r ∈ rs, r.length ≤ n) → (joinL rs).length ≤ rs.length * (n + 2)
  | [], _, _ => by simp [joinL]
  | [r], n, h => by
    have := h r (.head _)
    simp only [joinL, List.length_cons, List.length_nil]
    omega
  | r :: q :: s, n, h => by
    have ih := joinL_length (rs := q :: s) (n := n) fun x hx => h x (.tail _ hx)
    have h1 := h r (.head _)
    have e : joinL (r :: q :: s) = r ++ 13 :: 10 :: joinL (q :: s) := rfl
    rw [e]
    simp only [List.length_append, List.length_cons, Nat.succ_mul] at ih ⊢
    omega
theorem mailT_length {l r : Nat} (hr : r ≤ 18) : (mailT l r).length ≤ 1000000 := by
  have e : (mailT l r).length = (mailT l r).cps.toList.length := Array.length_toList.symm
  rw [e, mailT_cps hr]
  have h1 := joinL_length (rs := rowsL l r) (n := 40) fun x hx => by
    obtain ⟨d, hd, rfl⟩ := List.mem_map.mp hx
    have hd' : d < 11 := by simpa using hd
    rw [rowL_length]
    unfold dots
    split <;> omega
  have h2 : (rowsL l r).length = 11 := by simp [rowsL]
  rw [h2] at h1
  omega
theorem map_inj_int : ∀ {a b : List Nat}, a.map (fun (c : Nat) => (c : Int)) = b.map (fun (c : Nat) => (c : Int)) → a = b
  | [], [], _ => rfl
  | [], _ :: _, h => by simp at h
  | _ :: _, [], h => by simp at h
  | x :: a, y :: b, h => by
    simp only [List.map_cons, List.cons.injEq] at h
    have h1 : x = y := by omega
    rw [h1, map_inj_int h.2]
theorem jj_ok {p0 : Nat × Nat} {x : Str} (hb : p0.1 + p0.2 + x.cps.toList.length ≤ 18) : RelOk (JJ p0 x.cps.toList) x := by
  constructor
  · rintro pre m ⟨a, b, hab, _, rfl⟩
    have h1 := goN_le a p0
    have h2 := congrArg List.length hab
    simp only [List.length_append] at h2
    exact mailT_length (by omega)
  · rintro pre n post m hx ⟨a, b, hab, rfl, rfl⟩
    have h1 := goN_le a p0
    have h2 := congrArg List.length hab
    simp only [List.length_append] at h2
    have hb' : b.map (fun (c : Nat) => (c : Int)) = (n : Int) :: post := by
      have : x.cps.toList.map (fun (c : Nat) => (c : Int)) = a.map (fun (c : Nat) => (c : Int)) ++ (n : Int) :: post := hx
      rw [hab, List.map_append] at this
      exact List.append_cancel_left this
    cases b with
    | nil => simp at hb'
    | cons c b =>
      simp only [List.map_cons, List.cons.injEq] at hb'
      have hc : c = n := by omega
      subst hc
      simp only [List.length_cons] at h2
      constructor
      · rintro rfl
        refine ⟨a ++ [45], b, by rw [hab]; simp, by simp, ?_⟩
        rw [unquote_mail (by omega), goN_snoc]
        unfold stepN
        rw [if_pos rfl]
        split <;> rfl
      · intro hne
        refine ⟨a ++ [c], b, by rw [hab]; simp, by simp, ?_⟩
        rw [quote_mail (by omega), goN_snoc]
        unfold stepN
        rw [if_neg hne]
theorem jj_start {p0 : Nat × Nat} {cs : List Nat} : JJ p0 cs [] (mailT p0.1 p0.2) := ⟨[], cs, rfl, rfl, rfl⟩
theorem jj_end {p0 : Nat × Nat} {x : Str} {m : Str} (h : JJ p0 x.cps.toList (KStt.codes x) m) : m = mailT (goN p0 x.cps.toList).1 (goN p0 x.cps.toList).2 := by
  obtain ⟨a, b, _, h2, h3⟩ := h
  have : x.cps.toList = a := map_inj_int h2
  rw [this]
  exact h3
theorem pair_step (p : Nat × Nat) (c : Nat) : (if (c : Int) = 45 then (if 0 < (p.2 : Int) then ((p.1 : Int), (p.2 : Int) - 1) else ((p.1 : Int) + 1, (p.2 : Int))) else ((p.1 : Int), (p.2 : Int) + 1)) = (((stepN p c).1 : Int), ((stepN p c).2 : Int)) := by
  unfold stepN
  by_cases h : c = 45
  · rw [if_pos (by omega), if_pos h]
    by_cases h0 : 0 < p.2
    · rw [if_pos (by omega), if_pos h0]
      simp only [Prod.mk.injEq, true_and]
      omega
    · rw [if_neg (by omega), if_neg h0]
      simp only [Prod.mk.injEq]
      omega
  · rw [if_neg (by omega), if_neg h]
    simp
theorem pairL_go (cs : List Nat) : pairL (cs.map (fun (c : Nat) => (c : Int))) = (((goN (0, 0) cs).1 : Int), ((goN (0, 0) cs).2 : Int)) := by
  have key : ∀ (cs : List Nat) (p : Nat × Nat), (cs.map (fun (c : Nat) => (c : Int))).foldl (fun p c => if c = 45 then (if 0 < p.2 then (p.1, p.2 - 1) else (p.1 + 1, p.2)) else (p.1, p.2 + 1)) ((p.1 : Int), (p.2 : Int)) = (((goN p cs).1 : Int), ((goN p cs).2 : Int)) := by
    intro cs
    induction cs with
    | nil => intro p; rfl
    | cons c cs ih =>
      intro p
      rw [List.map_cons, List.foldl_cons]
      have e := pair_step p c
      dsimp only at e ⊢
      rw [e, ih (stepN p c)]
      rfl
  exact key cs (0, 0)
end Mine
end
-- Z
section
open PySem PySem.W PyProof.Rows
namespace Mine
theorem signsT_congr {bs cs : List Int} (h : signsL bs = signsL cs) : signsT bs = signsT cs := by
  unfold signsT
  rw [h]
theorem sign_three {b c : Int} (h : ∀ k < 3, signT b k = signT c k) : (List.range 3).map (signT b) = (List.range 3).map (signT c) := by
  refine List.map_congr_left fun k hk => h k (by simpa using hk)
theorem signs_three (a b c : Nat) (ha : a < 512) (hb : b < 512) (hc : c < 512) : signsT [(a : Int), (b : Int), (c : Int)] = signsT [((a % 8 : Nat) : Int), ((b % 8 : Nat) : Int), ((c % 8 : Nat) : Int)] := by
  refine signsT_congr ?_
  simp only [signsL, List.flatMap_cons, List.flatMap_nil]
  rw [sign_three fun k hk => signT_mod a ha k hk, sign_three fun k hk => signT_mod b hb k hk, sign_three fun k hk => signT_mod c hc k hk]
theorem pair_parts {p : Nat × Nat} {n : Nat} {w w' : List Nat} (hp : goN (0, 0) w = p) (hn : w.length = n) (hw : goN (goN (0, 0) w) w' = ((goN (0, 0) w).1, (goN (0, 0) w).1)) : ∃ lo re : Nat, lo + re ≤ n ∧ goN (0, 0) w = (lo, re) ∧ goN (lo, re) w' = (lo, lo) := by
  have hg := goN_le w (0, 0)
  rw [hp] at hg hw
  obtain ⟨lo, re⟩ := p
  exact ⟨lo, re, by simpa [hn] using hg, hp, hw⟩
theorem words_all {a b c : Nat} (ha : a < 8) (hb : b < 8) (hc : c < 8) : ∃ w w', word a b c = w ∧ word' a b c = w' ∧ w.length = 9 ∧ w'.length = 9 ∧ ∃ lo re : Nat, lo + re ≤ 9 ∧ goN (0, 0) w = (lo, re) ∧ goN (lo, re) w' = (lo, lo) :=
  ⟨_, _, rfl, rfl, (words_len a ha b hb c hc).1, (words_len a ha b hb c hc).2, pair_parts rfl (words_len a ha b hb c hc).1 (words_back a ha b hb c hc)⟩
theorem sig_cps (a b c : Nat) (ha : a < 512) (hb : b < 512) (hc : c < 512) : (signsT [(a : Int), (b : Int), (c : Int)]).cps.toList = word (a % 8) (b % 8) (c % 8) := by
  rw [signs_three a b c ha hb hc, word]
theorem back_cps (a b c : Nat) (ha : a < 512) (hb : b < 512) (hc : c < 512) : (signsT [turnBN (c : Int), turnBN (b : Int), turnBN (a : Int)]).cps.toList = word' (a % 8) (b % 8) (c % 8) := by
  rw [turnB_mod a ha, turnB_mod b hb, turnB_mod c hc, word']
theorem size_of {s : Str} {w : List Nat} (h : s.cps.toList = w) : s.length = w.length := by
  rw [← h]
  exact Array.length_toList.symm
theorem word_three {a b c : Nat} (ha : a < 512) (hb : b < 512) (hc : c < 512) {sg bk : Str} (hsg : signsT [(a : Int), (b : Int), (c : Int)] = sg) (hbk : signsT [turnBN (c : Int), turnBN (b : Int), turnBN (a : Int)] = bk) :
    ∃ lo re : Nat, lo + re ≤ 9 ∧ sg.length = 9 ∧ bk.length = 9 ∧ goN (0, 0) sg.cps.toList = (lo, re) ∧ goN (lo, re) bk.cps.toList = (lo, lo) := by
  have e1 := sig_cps a b c ha hb hc
  have e2 := back_cps a b c ha hb hc
  rw [hsg] at e1
  rw [hbk] at e2
  obtain ⟨w, w', h1, h2, h3, h4, lo, re, h5, h6, h7⟩ := words_all (a := a % 8) (b := b % 8) (c := c % 8) (Nat.mod_lt _ (by decide)) (Nat.mod_lt _ (by decide)) (Nat.mod_lt _ (by decide))
  rw [h1] at e1
  rw [h2] at e2
  refine ⟨lo, re, h5, (size_of e1).trans h3, (size_of e2).trans h4, ?_, ?_⟩
  · rw [e1, h6]
  · rw [e2, h7]
theorem nat_of {x : Int} (h : 0 ≤ x ∧ x < 512) : ∃ n : Nat, n < 512 ∧ x = (n : Int) := ⟨x.toNat, by omega, by omega⟩
theorem three_of {bs : List Int} (h : bs.length = 3) : ∃ x y z, bs = [x, y, z] := by
  match bs, h with
  | [x, y, z], _ => exact ⟨x, y, z, rfl⟩
theorem word_facts {bs : List Int} {sg bk : Str} (hl : bs.length = 3) (hb : ∀ b ∈ bs, 0 ≤ b ∧ b < 512) (hsg : signsT bs = sg) (hbk : signsT (bs.reverse.map turnBN) = bk) :
    ∃ lo re : Nat, lo + re ≤ 9 ∧ sg.length = 9 ∧ bk.length = 9 ∧ goN (0, 0) sg.cps.toList = (lo, re) ∧ goN (lo, re) bk.cps.toList = (lo, lo) := by
  obtain ⟨x, y, z, rfl⟩ := three_of hl
  obtain ⟨a, ha, rfl⟩ := nat_of (hb x (.head _))
  obtain ⟨b, hb', rfl⟩ := nat_of (hb y (.tail _ (.head _)))
  obtain ⟨c, hc, rfl⟩ := nat_of (hb z (.tail _ (.tail _ (.head _))))
  exact word_three ha hb' hc hsg hbk
theorem rows_joinOk {l r : Nat} (hr : r ≤ 18) : JoinOk (Str.ofString "\r\n") (rowsT l r) = true := by
  have h2 := join_sum (Str.ofString "\r\n") (rowsT l r)
  have h1 : Str.join (Str.ofString "\r\n") (rowsT l r) = mailT l r := (StrLaws.glued_eq_join _ _).symm
  have h3 := mailT_length (l := l) hr
  rw [h1] at h2
  have h4 : (Str.ofString "\r\n").length = 2 := by decide +kernel
  have h5 : sizeLine = 16777216 := by decide
  have h6 : (rowsT l r).length = 11 := by simp [rowsT]
  unfold JoinOk
  rw [StrLaws.joinTotal, h6, h4]
  show (!decide _) = true
  rw [decide_eq_false (by omega)]
  rfl
end Mine
end
-- O1
section
open PySem PySem.W PyProof.Rows
namespace Mine
/-- the greater or like one -/
def leS (a b : Str) : Prop := ¬ (b.cps.toList < a.cps.toList)
theorem leS_trans {a b c : Str} (h : leS a b) (g : leS b c) : leS a c := List.le_trans (α := Nat) h g
theorem rising_pairwise : ∀ (l : List Str) (p : Str), risingS p l = true → (p :: l).Pairwise leS
  | [], p, _ => by simp
  | x :: r, p, h => by
    simp only [risingS, Bool.and_eq_true, Bool.not_eq_true', ltCps_eq, decide_eq_false_iff_not] at h
    have ih := rising_pairwise r x h.2
    have hp : leS p x := h.1
    refine List.pairwise_cons.mpr ⟨fun y hy => ?_, ih⟩
    rcases List.mem_cons.mp hy with rfl | hy
    · exact hp
    · exact leS_trans hp ((List.pairwise_cons.mp ih).1 y hy)
theorem sorted_pairwise : ∀ (l : List Str), sortedS l = true → l.Pairwise leS
  | [], _ => .nil
  | x :: r, h => rising_pairwise r x h
theorem sorted_uniq {a b : List Str} (h : a.Perm b) (ha : sortedS a = true) (hb : sortedS b = true) : a = b :=
  List.Perm.eq_of_pairwise (fun x y _ _ h1 h2 => str_ext (List.le_antisymm (α := Nat) h1 h2)) (sorted_pairwise a ha) (sorted_pairwise b hb) h
/-- the rows, sorted -/
def srt (lo : Nat) : List Str := ((rowsT lo lo).drop (lo + 1)).reverse ++ (rowsT lo lo).take (lo + 1)
theorem srt_perm (lo : Nat) : (srt lo).Perm (rowsT lo lo) := by
  unfold srt
  refine (List.Perm.append_right _ (List.reverse_perm _)).trans (List.perm_append_comm.trans ?_)
  rw [List.take_append_drop]
theorem srt_sorted : ∀ lo < 10, sortedS (srt lo) = true := by decide +kernel
theorem srt_eq {lo : Nat} {a : List Str} (h : lo < 10) (hp : a.Perm (rowsT lo lo)) (hs : sortedS a = true) : a = srt lo :=
  sorted_uniq (hp.trans (srt_perm lo).symm) hs (srt_sorted lo h)
/-- what is missing, what is not looked for -/
def missT (lo : Nat) : List Str := (((rowsT 0 0).drop 1).take lo).reverse
def moreT (lo : Nat) : List Str := ((rowsT lo lo).take (lo + 1)).drop 1
theorem miss_sorted : ∀ lo < 10, sortedS (missT lo) = true := by decide +kernel
theorem miss_eq {lo : Nat} {a : List Str} (h : lo < 10) (hp : a.Perm (((rowsT 0 0).drop 1).take lo)) (hs : sortedS a = true) : a = missT lo :=
  sorted_uniq (hp.trans (List.reverse_perm _).symm) hs (miss_sorted lo h)
/-- the two lists' difference from here on, as the function goes -/
inductive SD (xs ys : List Str) : Nat → Nat → List Str → List Str → Prop
  | same {i j x x' y' ms us} : xs[i]? = some x → ys[j]? = some x → xs[i + 1]? = some x' → x' ≠ x → ys[j + 1]? = some y' → y' ≠ x → SD xs ys (i + 1) (j + 1) ms us → SD xs ys i j ms us
  | less {i j x y x' ms us} : xs[i]? = some x → ys[j]? = some y → x.cps.toList < y.cps.toList → xs[i + 1]? = some x' → x' ≠ x → SD xs ys (i + 1) j ms us → SD xs ys i j (x :: ms) us
  | last {i j x y'} : xs[i]? = some x → ys[j]? = some x → xs[i + 1]? = none → ys[j + 1]? = some y' → y' ≠ x → SD xs ys i j (xs.drop (i + 1)) (ys.drop (j + 1))
  | both {i j x} : xs[i]? = some x → ys[j]? = some x → xs[i + 1]? = none → ys[j + 1]? = none → SD xs ys i j (xs.drop (i + 1)) (ys.drop (j + 1))
def sdF (xs ys : List Str) : Nat → Nat → Nat → Option (List Str × List Str)
  | 0, _, _ => none
  | f + 1, i, j => match xs[i]?, ys[j]?, xs[i + 1]?, ys[j + 1]? with
    | some x, some y, some x', some y' =>
      if x' = x then none else if x = y then (if y' = x then none else sdF xs ys f (i + 1) (j + 1))
      else if x.cps.toList < y.cps.toList then (sdF xs ys f (i + 1) j).map fun p => (x :: p.1, p.2) else none
    | some x, some y, some x', none => if x' = x then none else if x.cps.toList < y.cps.toList then (sdF xs ys f (i + 1) j).map fun p => (x :: p.1, p.2) else none
    | some x, some y, none, some y' => if x = y then (if y' = x then none else some (xs.drop (i + 1), ys.drop (j + 1))) else none
    | some x, some y, none, none => if x = y then some (xs.drop (i + 1), ys.drop (j + 1)) else none
    | _, _, _, _ => none
theorem sdF_sound (xs ys : List Str) : ∀ (f i j : Nat) (p : List Str × List Str), sdF xs ys f i j = some p → SD xs ys i j p.1 p.2
  | 0, _, _, _, h => by simp [sdF] at h
  | f + 1, i, j, p, h => by
    unfold sdF at h
    split at h
    · rename_i x y x' y' h1 h2 h3 h4
      split at h
      · simp at h
      · rename_i hx'
        split at h
        · rename_i hxy
          subst hxy
          split at h
          · simp at h
          · rename_i hy'
            exact .same h1 h2 h3 hx' h4 hy' (sdF_sound xs ys f _ _ p h)
        · split at h
          · rename_i hlt
            obtain ⟨q, hq, rfl⟩ := Option.map_eq_some_iff.mp h
            exact .less h1 h2 hlt h3 hx' (sdF_sound xs ys f _ _ q hq)
          · simp at h
    · rename_i x y x' h1 h2 h3 h4
      split at h
      · simp at h
      · rename_i hx'
        split at h
        · rename_i hlt
          obtain ⟨q, hq, rfl⟩ := Option.map_eq_some_iff.mp h
          exact .less h1 h2 hlt h3 hx' (sdF_sound xs ys f _ _ q hq)
        · simp at h
    · rename_i x y y' h1 h2 h3 h4
      split at h
      · rename_i hxy
        subst hxy
        split at h
        · simp at h
        · rename_i hy'
          cases h
          exact .last h1 h2 h3 h4 hy'
      · simp at h
    · rename_i x y h1 h2 h3 h4
      split at h
      · rename_i hxy
        subst hxy
        cases h
        exact .both h1 h2 h3 h4
      · simp at h
    · simp at h
theorem sd_all : ∀ lo < 10, sdF (srt 0) (srt lo) 12 0 0 = some (missT lo, moreT lo) := by decide +kernel
theorem sd_rows {lo : Nat} (h : lo < 10) : SD (srt 0) (srt lo) 0 0 (missT lo) (moreT lo) := sdF_sound _ _ _ _ _ _ (sd_all lo h)
end Mine
end
-- O3
section
open PySem PySem.W PyProof.Rows
namespace Mine
theorem strsAre_vals : ∀ l : List (Str × Tok), StrsAre (strValues l) (l.map (·.1))
  | [] => .nil
  | (x, t) :: r => .cons x t (strsAre_vals r)
theorem vals_of_strsAre : ∀ {vs : List Value} {ss : List Str}, StrsAre vs ss → ∃ l : List (Str × Tok), vs = strValues l ∧ l.map (·.1) = ss
  | _, _, .nil => ⟨[], rfl, rfl⟩
  | _, _, .cons x t r => by
    obtain ⟨l, rfl, rfl⟩ := vals_of_strsAre r
    exact ⟨(x, t) :: l, rfl, rfl⟩
theorem reads_list {h : Heap} {D : Addr} {l : List (Str × Tok)} {k : Nat} {ts : List Str} (hD : h.get? D = some { cls := .type "list", data := .seq (strValues l).toArray k }) (hl : l.map (·.1) = ts) : Reads h (.ref D) (.list (ts.map .str)) [D] := by
  subst hl
  exact .list hD rfl rfl (by simpa using (strsAre_vals l).reads h)
theorem depth_list (ts : List Str) : PyData.depth (.list (ts.map .str)) = 1 := by
  rw [PyData.depth, depthAll_strs']
theorem lay_list {ts : List Str} (h : ts.all PyData.strOk = true) : PyData.canLay0 (.list (ts.map .str)) = true := by
  rw [PyData.canLay0, canLayAll_strs', h]
section
variable {prog : Program} {w : World} {A : Around} {E : Value → Shared → Prop} {s : Shared} {h₀ : Heap} {L : Addr} {m : Str → Option Value} {news : List (Addr × Obj)} {Q : Value → Shared → Prop}
theorem ne_same {D1 D2 : Addr} {l1 l2 : List (Str × Tok)} {k1 k2 : Nat} {ts : List Str} (N : News h₀ L s.heap news) (hm1 : (D1, ({ cls := .type "list", data := .seq (strValues l1).toArray k1 } : Obj)) ∈ news) (hm2 : (D2, ({ cls := .type "list", data := .seq (strValues l2).toArray k2 } : Obj)) ∈ news)
    (h1 : l1.map (·.1) = ts) (h2 : l2.map (·.1) = ts) (hok : ts.all PyData.strOk = true) (hu : A.units + 1 < cLine) (h : Q (.bool false) s) : wpAny (model prog w) A (compareOp .NotEq (.ref D1) (.ref D2)) Q E s := by
  refine SeqAt.compareNe_reads (reads_list (N _ hm1).1 h1) (reads_list (N _ hm2).1 h2) (lay_list hok) (lay_list hok) (by rw [depth_list, Nat.min_self]; exact hu) ?_
  rw [SeqAt.eqv_refl _ (lay_list hok)]
  exact h
theorem eq_pairs {T1 T2 M1 U1 M2 U2 : Addr} {lm1 lu1 lm2 lu2 : List (Str × Tok)} {k1 k2 k3 k4 n1 n2 : Nat} {ms us : List Str} (N : News h₀ L s.heap news)
    (ht1 : (T1, ({ cls := .type "tuple", data := .seq #[.ref M1, .ref U1] n1 } : Obj)) ∈ news) (ht2 : (T2, ({ cls := .type "tuple", data := .seq #[.ref M2, .ref U2] n2 } : Obj)) ∈ news)
    (hm1 : (M1, ({ cls := .type "list", data := .seq (strValues lm1).toArray k1 } : Obj)) ∈ news) (hu1 : (U1, ({ cls := .type "list", data := .seq (strValues lu1).toArray k2 } : Obj)) ∈ news)
    (hm2 : (M2, ({ cls := .type "list", data := .seq (strValues lm2).toArray k3 } : Obj)) ∈ news) (hu2 : (U2, ({ cls := .type "list", data := .seq (strValues lu2).toArray k4 } : Obj)) ∈ news)
    (h1 : lm1.map (·.1) = ms) (h2 : lu1.map (·.1) = us) (h3 : lm2.map (·.1) = ms) (h4 : lu2.map (·.1) = us) (hok1 : ms.all PyData.strOk = true) (hok2 : us.all PyData.strOk = true) (hu : A.units + 2 < cLine) (h : Q (.bool true) s) :
    wpAny (model prog w) A (compareOp .Eq (.ref T1) (.ref T2)) Q E s := by
  have hc : PyData.canLay0 (.tuple [.list (ms.map .str), .list (us.map .str)]) = true := by
    simp only [PyData.canLay0, PyData.canLayAll0, canLayAll_strs', hok1, hok2, Bool.and_self]
  have hd : PyData.depth (.tuple [.list (ms.map .str), .list (us.map .str)]) = 2 := by
    simp [PyData.depth, PyData.depthAll, depthAll_strs']
  refine SeqAt.compareEq_reads (da := .tuple [.list (ms.map .str), .list (us.map .str)]) (db := .tuple [.list (ms.map .str), .list (us.map .str)]) (as := [M1] ++ ([U1] ++ [])) (bs := [M2] ++ ([U2] ++ []))
    (.tuple (N _ ht1).1 rfl rfl (.cons (reads_list (N _ hm1).1 h1) (.cons (reads_list (N _ hu1).1 h2) .nil)))
    (.tuple (N _ ht2).1 rfl rfl (.cons (reads_list (N _ hm2).1 h3) (.cons (reads_list (N _ hu2).1 h4) .nil))) hc hc (by rw [hd, Nat.min_self]; exact hu) ?_
  rw [SeqAt.eqv_refl _ hc]
  exact h
theorem sorted_K {D : Addr} {l : List (Str × Tok)} {k : Nat} {rows ts : List Str} (F : Fr h₀ L s.heap m) (N : News h₀ L s.heap news) (hm : (D, ({ cls := .type "list", data := .seq (strValues l).toArray k } : Obj)) ∈ news) (hl : l.map (·.1) = rows) (h64 : rows.length < 64)
    (hu : ∀ ss : List Str, ss.Perm rows → sortedS ss = true → ss = ts)
    (h : ∀ (h' : Heap) (D' : Addr) (l' : List (Str × Tok)) (e : Nat), l'.map (·.1) = ts → Fr h₀ L h' m → News h₀ L h' ((D', { cls := .type "list", data := .seq (strValues l').toArray e }) :: news) → Q (.ref D') { s with heap := h' }) :
    wpAny (model prog w) A (call (.builtin "sorted") [.ref D]) Q E s := by
  subst hl
  refine sorted_N_str F N ⟨_, (N _ hm).1, rfl, k, rfl⟩ (strsAre_vals l) (by simpa [strValues] using h64) ?_
  intro h' vs' ss' e F' N' hS hp hs
  obtain ⟨l', rfl, hl'⟩ := vals_of_strsAre hS
  exact h h' _ l' e (hl'.trans (hu _ hp hs)) F' N'
end
theorem bounds_all : ∀ lo < 10, sliceBounds (some 1) (some (((lo : Nat) : Int) + 1)) none 11 = (((1 : Nat) : Int), ((lo + 1 : Nat) : Int), 1) := by decide +kernel
theorem slice_rows {prog : Program} {w : World} {A : Around} {E : Value → Shared → Prop} {s : Shared} {h₀ : Heap} {L : Addr} {m : Str → Option Value} {news : List (Addr × Obj)} {Q : Value → Shared → Prop} {value slice : PySem.Expr} {vl vu : Value} {D : Addr} {l : List (Str × Tok)} {k lo : Nat}
    (F : Fr h₀ L s.heap m) (N : News h₀ L s.heap news) (hm : (D, ({ cls := .type "list", data := .seq (strValues l).toArray k } : Obj)) ∈ news) (hl : l.length = 11) (hlo : lo < 10) (pl : IsPart vl (some 1)) (pu : IsPart vu (some ((lo : Int) + 1)))
    (h : ∀ D' h', Fr h₀ L h' m → News h₀ L h' ((D', { cls := .type "list", data := .seq (strValues ((l.drop 1).take lo)).toArray }) :: news) → (∀ p ∈ news, p.1 < D') → Q (.ref D') { s with heap := h' })
    (hs : subscripted slice false (.ref D) (.ref s.heap.objs.size) = operate [.ref s.heap.objs.size, .ref D] (getItem (.ref D) (.ref s.heap.objs.size))) (ht : ∀ r, letTemporaryGo value (.ref D) r = pure ()) :
    wpAny (model prog w) A (subscriptTail value slice (.ref D) (.ref s.heap.objs.size)) Q E { s with heap := s.heap.push { cls := .type "slice", data := .fields #[vl, vu, .none] } } := by
  have hz : (strValues l).toArray.size = 11 := by simp [strValues, hl]
  refine kmk_slice F N ⟨_, (N _ hm).1, rfl, k, rfl⟩ pl pu (fun D' h' F' N' l1 => h D' h' F' ?_ l1) hs ht (by rw [hz]; decide)
  rw [kmk_pick_nat (a := 1) (b := lo + 1) _ (by rw [hz]; exact bounds_all lo hlo)] at N'
  have e : (((strValues l).toArray.toList.drop 1).take (lo + 1 - 1)).toArray = (strValues ((l.drop 1).take lo)).toArray := by
    simp [strValues, List.map_take, List.map_drop]
  rw [e] at N'
  exact N'
theorem rowsT_len (l r : Nat) : (rowsT l r).length = 11 := by simp [rowsT]
theorem carried_strs {ys : List Value} {ss : List Str} (h : CarriedAll ys (ss.map PyData.str)) : ∃ l : List (Str × Tok), ys = strValues l ∧ l.map (·.1) = ss := by
  induction ss generalizing ys with
  | nil => cases h; exact ⟨[], rfl, rfl⟩
  | cons x r ih =>
    cases h with
    | cons h1 h2 =>
      obtain ⟨l, rfl, rfl⟩ := ih h2
      cases h1 with
      | str x t => exact ⟨(x, t) :: l, rfl, rfl⟩
theorem letters_all : ∀ lo < 10, signs (Txt.slice (Str.ofString "abcdefghijk") (some 1) (some (((lo : Nat) : Int) + 1))) = moreT lo := by decide +kernel
theorem srt_len (lo : Nat) : (srt lo).length ≤ 1000 := by
  rw [(srt_perm lo).length_eq, rowsT_len]
  decide
theorem law_units (env : Env) : (callerA.deeper env).units + 2 < cLine := by
  rw [units_deeper, units_caller]
  decide
theorem rows_ok : ∀ lo < 10, (rowsT lo lo).all PyData.strOk = true := by decide +kernel
theorem miss_ok : ∀ lo < 10, (missT lo).all PyData.strOk = true := by decide +kernel
theorem more_ok : ∀ lo < 10, (moreT lo).all PyData.strOk = true := by decide +kernel
end Mine
end
-- O5
section
open PySem PySem.W PyProof.Rows
namespace Mine
/-- a made exception, with another behind it -/
structure NewExcC (h h' : Heap) (e : Addr) (cls : String) (c : Value) : Prop where
  keeps : ∀ b o, h.get? b = some o → h'.get? b = some o
  new : h.get? e = none
  there : ∃ ob t, h'.get? e = some ob ∧ ob.cls = .type cls ∧ ob.data = .fields #[t, .none, c, .none, .bool false, .none]
theorem entry_unchain : entryFor table "proto.unchain" = some Builtin.«proto.unchain» := entryFor_of_tree (by kernel_rfl)
section
variable {prog : Program} {w : World} {A : Around} {E : Value → Shared → Prop} {s : Shared}
theorem unchain_none {e : Value} {x : Addr} {ox : Obj} {vx : Array Value} {Q : Value → Shared → Prop} (hx : s.heap.get? x = some ox) (hxd : ox.data = .fields vx) (h2 : vx[2]? = some .none) (h : Q .none s) :
    wpAny (model prog w) A (runValue (.builtin "proto.unchain" ⟨[e, .ref x, .ref x, .bool false], []⟩)) Q E s := by
  refine runValue_entry entry_unchain ?_
  unfold Builtin.«proto.unchain»
  refine wpAny_bind (wpAny_field hx hxd h2 ?_)
  rw [if_pos (by rfl)]
  exact wpAny_pure ⟨_, rfl, h⟩
theorem raiseNew_held {α : Type} {a x : Addr} {oa ox : Obj} {va vx : Array Value} {Q : α → Shared → Prop} (hh : A.handled = some (.ref x)) (hne : x ≠ a) (ha : s.heap.get? a = some oa) (had : oa.data = .fields va) (hv : 2 < va.size) (hx : s.heap.get? x = some ox) (hxd : ox.data = .fields vx) (h2 : vx[2]? = some .none)
    (h : E (.ref a) { s with heap := s.heap.update a (Obj.mapFields (·.setIfInBounds 2 (.ref x))) }) : wpAny (model prog w) A (raiseNew (.ref a) : Sem α) Q E s := by
  unfold raiseNew
  refine wpAny_bind (wpAny_handled ?_)
  rw [hh]
  dsimp only
  rw [if_pos (show (Value.ref x != Value.ref a) = true by simp [hne])]
  refine wpAny_bind (wpAny_holding (unchain_none hx hxd h2 ?_))
  exact wpAny_bind (wpAny_setField ha had hv (wpAny_throw h))
theorem raise_held {α : Type} {cls msg : String} {x : Addr} {ox : Obj} {vx : Array Value} {Q : α → Shared → Prop} (hp : PlainExc cls) (hh : A.handled = some (.ref x)) (hx : s.heap.get? x = some ox) (hxd : ox.data = .fields vx) (h2 : vx[2]? = some .none)
    (h : ∀ h' tk e, NewExcC s.heap h' e cls (.ref x) → E (.ref e) { s with heap := h', toks := tk }) :
    wpAny (model prog w) A (raiseErrorWords cls msg : Sem α) Q E s := by
  unfold raiseErrorWords
  refine wpAny_bind (wpAny_mkText (wpAny_bind ?_))
  unfold newExc newTuple
  refine wpAny_bind (wpAny_newObj_type ?_)
  refine wpAny_bind (m := firstArgMember _ _) (wpAny_of_eq (a := Value.none) (by simp only [firstArgMember, hp.first]; rfl) ?_)
  rw [hp.own]
  refine wpAny_newObj_type ?_
  have hlt := Heap.lt_size hx
  have hne : x ≠ s.heap.objs.size + 1 := Nat.ne_of_lt (Nat.lt_succ_of_lt hlt)
  refine raiseNew_held hh (by simpa using hne) (Heap.get?_push_size _ rfl) rfl (by simp) (Heap.get?_push_of_some _ (Heap.get?_push_of_some _ hx)) hxd h2 ?_
  refine h _ _ _ ⟨fun b o hb => ?_, Heap.get?_none_of_le (by simp), ?_⟩
  · have hlb := Heap.lt_size hb
    exact (Heap.get?_update_ne _ _ _ _ (by have h9 := Nat.ne_of_lt (Nat.lt_succ_of_lt hlb); simpa using h9)).trans (Heap.get?_push_of_some _ (Heap.get?_push_of_some _ hb))
  · exact ⟨_, .ref s.heap.objs.size, Heap.get?_update_self _ (Heap.get?_push_size _ rfl) rfl, rfl, by simp [Obj.mapFields]⟩
theorem getItem_out_held {l x : Addr} {items : Array Value} {k : Int} {t : Tok} {ox : Obj} {vx : Array Value} {Q : Value → Shared → Prop} (hh : A.handled = some (.ref x)) (hx : s.heap.get? x = some ox) (hxd : ox.data = .fields vx) (h2 : vx[2]? = some .none) (hl : s.heap.IsList l items)
    (hout : (items.size : Int) ≤ k) (hlo : -(2 ^ 63) ≤ k) (hhi : k < 2 ^ 63) (hE : ∀ h' tk e, NewExcC s.heap h' e "IndexError" (.ref x) → E (.ref e) { s with heap := h', toks := tk }) :
    wpAny (model prog w) A (getItem (.ref l) (.int k t)) Q E s := by
  obtain ⟨o, ho, hc, ne, hd⟩ := id hl
  have key : ∀ {α : Type} {Q : α → Shared → Prop}, wpAny (model prog w) A.in1 (raiseErrorWords "IndexError" "list index out of range" : Sem α) Q E s := fun {α} {Q} => raise_held plainExc_IndexError (A := A.in1) hh hx hxd h2 hE
  unfold getItem
  try with_reducible refine wpAny_holding ?_
  first | refine wpAny_bind (wpAny_pure ?_) | skip
  refine wpAny_bind (wpAny_sequenceKey hl.typeIs (by decide) ?_)
  refine wpAny_bind (wpAny_callSpecial?_slot (name := Str.ofString "__getitem__") hl.typeIs slot_list_getitem (wpAny_call_entry slot_list_getitem hl.typeIs entry_list_getitem ?_ (args_list_getitem _ _)))
  show wpAny _ _ (Builtin.List.listSubscript? (.int k t) >>= _) _ _ s
  refine wpAny_bind (wpAny_listSubscript_int (fitsIndex_both hlo hhi) ?_)
  clear hlo hhi
  match k, hout with
  | .negSucc j, hout => exact absurd hout (by have := Int.negSucc_lt_zero j; omega)
  | .ofNat j, hout =>
    have hxi : items[j]? = none := Array.getElem?_eq_none (by have : (items.size : Int) ≤ (j : Int) := hout; omega)
    show wpAny _ _ ((seqItemAt l j >>= fun r => pure (r.map (j, ·))) >>= _) _ _ s
    refine wpAny_bind (wpAny_bind (wpAny_seqItemAt ho hd (wpAny_pure ?_)))
    rw [hxi]
    exact wpAny_bind (wpAny_rule (wpAny_bind key))
end
/-- an exception that was looked at: its object and its first entry -/
structure Exc (X : String) (e tb : Addr) (oe otb : Obj) (c fl : Value) : Prop where
  cls : oe.cls = .type X
  vs : ∃ vs : Array Value, oe.data = .fields vs ∧ vs[1]? = some (.ref tb) ∧ vs[2]? = some c
  ts : ∃ ts : Array Value, otb.data = .fields ts ∧ ts[3]? = some fl
  ne : tb ≠ e
theorem newExc_C {h h' : Heap} {e : Addr} {cls : String} (H : Heap.NewExc h h' e cls) : NewExcC h h' e cls .none := ⟨H.keeps, H.new, H.there⟩
theorem some_ne {h : Heap} {a b : Addr} {o : Obj} (ha : h.get? a = some o) (hb : h.get? b = none) : a ≠ b := by
  intro q
  rw [q, hb] at ha
  cases ha
theorem note_fresh {prog : Program} {w : World} {A : Around} {E : Value → Shared → Prop} {s' : Shared} {h₀ h : Heap} {L L' af e : Addr} {m : Str → Option Value} {name : Str} {scope : Scope} {cd : Value} {X : String} {c : Value} {env : Env} {oL : Obj} {new : List (Addr × Obj)} {Q : Unit → Shared → Prop}
    (hfr : A.frames = some [envOf name scope L' af cd, env]) (Fs : TI.Frs [env] [(L, oL)]) (hx : NewExcC h s'.heap e X c) (F : Fr h₀ L' h m) (N : News h₀ L' h (new ++ [(L, oL)])) (hne : ∀ p ∈ new, p.1 ≠ L)
    (k : ∀ h' sl tb oe otb, TI.Frs [env] [(L, { oL with slots := sl })] → Fr h₀ L' h' m → News h₀ L' h' ((e, oe) :: (tb, otb) :: (new ++ [(L, { oL with slots := sl })])) → Exc X e tb oe otb c (rawInt L') → (∀ p ∈ new ++ [(L, { oL with slots := sl })], p.1 ≠ tb ∧ p.1 ≠ e) → Q () { s' with heap := h' })
    (hk : scope.kind = .function := by rfl) :
    wpAny (model prog w) A (noteFrame (.ref e) (envOf name scope L' af cd)) Q E s' := by
  obtain ⟨ob, t, he, hcls, hd⟩ := hx.there
  obtain ⟨hff, _, frs₁, SU, ht⟩ := TI.frames_at (name := name) (a := af) (cd := cd) (h' := s'.heap) (base := TI.gone h (L' :: [(L, oL)].map (·.1))) hk Fs F N TI.tail_sub (fun b o hb' => ⟨o.slots, hx.keeps b o hb'⟩) fun b hm => TI.gone_none hm
  have hfL : env.frame = some L := Fs.2.1
  have hsub : ∀ b, b ≠ L' → b ≠ L → b ∉ [envOf name scope L' af cd, env].filterMap (·.frame) := by
    intro b h1 h2 hm
    simp only [List.filterMap_cons, hfL, List.filterMap_nil] at hm
    rcases List.mem_cons.mp hm with q | hm
    · exact h1 q
    · exact h2 (List.mem_singleton.mp hm)
  obtain ⟨oL', es, ep, hL', hLd, hk1, hk2⟩ := F.ns
  have hNL := N (L, oL) (List.mem_append_right _ (.head _))
  have heL' : e ≠ L' := Ne.symm (some_ne hL' hx.new)
  have heL : e ≠ L := Ne.symm (some_ne hNL.1 hx.new)
  unfold noteFrame
  simp only [show (envOf name scope L' af cd).frame = some L' from rfl]
  refine wpAny_bind (wpAny_field he hd (x := .none) rfl ?_)
  rw [if_neg (by decide)]
  refine wpAny_bind (wpAny_frameOf_fun hfr hff rfl fun h₁ hs₁ => ?_)
  refine wpAny_bind (wpAny_entryPlaceOf fun pl hpl => ?_)
  unfold EntryCells.newEntry newFields
  refine wpAny_bind (wpAny_newObj_type ?_ (hpl.sizeOk5 _ _ _ _ _))
  have he₁ : h₁.get? e = some ob := (hs₁.2.1 e (hsub e heL' heL)).trans he
  have he₂ := Heap.get?_push_of_some (h := h₁) { cls := .type "traceback", dict := none, data := .fields ([Value.none, .ref L', .none, rawInt L', .none] ++ (if pl.isEmpty then List.replicate 6 Value.none else pl)).toArray } he₁
  have hTe : h₁.objs.size ≠ e := Nat.ne_of_gt (Heap.lt_size he₁)
  refine wpAny_setField he₂ hd (by show 1 < 6; decide) ?_
  have hd₃ := Obj.data_mapFields hd (·.setIfInBounds 1 (Value.ref h₁.objs.size))
  have he₃ := Heap.get?_update_self (Obj.mapFields (·.setIfInBounds 1 (Value.ref h₁.objs.size))) he₂ (Obj.isFreed_of_fields hd₃)
  have hT₃ := (Heap.get?_update_other (h₁.push { cls := .type "traceback", dict := none, data := .fields ([Value.none, .ref L', .none, rawInt L', .none] ++ (if pl.isEmpty then List.replicate 6 Value.none else pl)).toArray })
    (Obj.mapFields (·.setIfInBounds 1 (Value.ref h₁.objs.size))) (Ne.symm hTe)).trans (Heap.get?_push_size h₁ rfl)
  have keep : ∀ b o, b ≠ e → h₁.get? b = some o →
      ((h₁.push { cls := .type "traceback", dict := none, data := .fields ([Value.none, .ref L', .none, rawInt L', .none] ++ (if pl.isEmpty then List.replicate 6 Value.none else pl)).toArray }).update e (Obj.mapFields (·.setIfInBounds 1 (Value.ref h₁.objs.size)))).get? b = some o :=
    fun b o hbe hb => by
      rw [Heap.get?_update_other _ _ (Ne.symm hbe)]
      exact Heap.get?_push_of_some _ hb
  have up : ∀ b o, b ≠ L' → b ≠ L → h.get? b = some o → _ := fun b o h1 h2 hb => keep b o (some_ne hb hx.new) ((hs₁.2.1 b (hsub b h1 h2)).trans (hx.keeps b o hb))
  have hlt : ∀ b o, h.get? b = some o → b ≠ h₁.objs.size := fun b o hb q => by
    have h1 := Heap.lt_size (hx.keeps b o hb)
    rw [q, hs₁.1] at h1
    exact absurd h1 (Nat.lt_irrefl _)
  obtain ⟨slL, hsL⟩ := hs₁.2.2 L oL (hx.keeps _ _ hNL.1)
  obtain ⟨slL', hsL'⟩ := hs₁.2.2 L' oL' (hx.keeps _ _ hL')
  have none0 : ∀ b, (∀ o, h.get? b = some o → False) → h₀.get? b = none := fun b hb => by
    cases q : h₀.get? b with
    | none => rfl
    | some o => exact (hb o (F.keep b o q)).elim
  have hTL' : h₁.objs.size ≠ L' := Ne.symm (hlt L' oL' hL')
  have hTL : h₁.objs.size ≠ L := Ne.symm (hlt L oL hNL.1)
  have F₃ : Fr h₀ L' _ m := ⟨⟨_, es, ep, keep L' _ (Ne.symm heL') hsL', hLd, hk1, hk2⟩, fun b o hb => up b o (fun q => by have := Heap.lt_size hb; rw [q] at this; exact absurd F.above (Nat.not_le.mpr this)) (fun q => by rw [q, hNL.2.2] at hb; cases hb) (F.keep b o hb), F.above⟩
  refine k _ slL h₁.objs.size _ { cls := .type "traceback", dict := none, data := .fields ([Value.none, .ref L', .none, rawInt L', .none] ++ (if pl.isEmpty then List.replicate 6 Value.none else pl)).toArray } ⟨Fs.1, Fs.2.1, Fs.2.2.1, trivial⟩ F₃ ?_ ⟨?_, ⟨_, hd₃, ?_, ?_⟩, ⟨_, rfl, ?_⟩, hTe⟩ ?_
  · intro p hp
    rcases List.mem_cons.mp hp with rfl | hp
    · exact ⟨he₃, heL', none0 e fun o ho => by rw [hx.new] at ho; cases ho⟩
    · rcases List.mem_cons.mp hp with rfl | hp
      · exact ⟨hT₃, hTL', none0 _ fun o ho => hlt _ _ ho rfl⟩
      · rcases List.mem_append.mp hp with hp | hp
        · have h1 := N p (List.mem_append_left _ hp)
          exact ⟨up _ _ h1.2.1 (hne p hp) h1.1, h1.2⟩
        · rw [List.mem_singleton.mp hp]
          exact ⟨keep L _ (Ne.symm heL) hsL, hNL.2⟩
  · exact (Obj.cls_mapFields _ _).trans hcls
  · simp
  · simp
  · first | (simp; done) | (rcases hpl with rfl | ⟨_, _, _, _, _, _, _, rfl⟩ <;> simp)
  · intro p hp
    rcases List.mem_append.mp hp with hp | hp
    · have h1 := N p (List.mem_append_left _ hp)
      exact ⟨hlt _ _ h1.1, some_ne h1.1 hx.new⟩
    · rw [List.mem_singleton.mp hp]
      exact ⟨Ne.symm hTL, Ne.symm heL⟩
end Mine
end
-- O6
section
open PySem PySem.W PyProof.Rows
namespace Mine
section
variable {M : Model} {A : Around} {E : Value → Shared → Prop} {s : Shared} {g : Heap} {L af e tb : Addr} {m : Str → Option Value} {name : Str} {scope : Scope} {cd : Value} {X : String} {c fl : Value} {oe otb : Obj} {nw : List (Addr × Obj)}
theorem x_flight {fr : Option Addr} {Q : Unit → Shared → Prop} (F : Fr g L s.heap m) (N : News g L s.heap ((e, oe) :: (tb, otb) :: nw)) (H : Exc X e tb oe otb c fl) (hne : ∀ p ∈ nw, p.1 ≠ tb ∧ p.1 ≠ e)
    (k : ∀ h' otb', Fr g L h' m → News g L h' ((e, oe) :: (tb, otb') :: nw) → Exc X e tb oe otb' c (fr.elim .none fun f => rawInt f) → Q () { s with heap := h' }) : wpAny M A (setFlight (.ref e) fr) Q E s := by
  obtain ⟨hcls, ⟨vs, hd, h1, h2⟩, ⟨ts, hdt, h3⟩, hte⟩ := H
  have he := N _ (.head _)
  have htb := N _ (.tail _ (.head _))
  have hsz : 3 < ts.size := (Array.getElem?_eq_some_iff.mp h3).1
  obtain ⟨oL, es, ep, hL, hLd, hk1, hk2⟩ := F.ns
  unfold setFlight
  refine wpAny_bind (wpAny_field he.1 hd h1 ?_)
  rw [if_pos (show (Value.ref tb != Value.none) = true from by simp)]
  refine wpAny_setField htb.1 hdt hsz ?_
  refine k _ (Obj.mapFields (·.setIfInBounds 3 (fr.elim .none fun f => rawInt f)) otb) ⟨⟨oL, es, ep, (Heap.get?_update_ne _ _ _ _ (Ne.symm htb.2.1)).trans hL, hLd, hk1, hk2⟩, fun b o hb => (Heap.get?_update_ne _ _ _ _ (fun q => by
    have q' : b = tb := q
    rw [q', htb.2.2] at hb; cases hb)).trans (F.keep b o hb), F.above⟩ ?_ ⟨hcls, ⟨vs, hd, h1, h2⟩, ⟨_, Obj.data_mapFields hdt _, by simp [Array.getElem?_setIfInBounds, hsz]⟩, hte⟩
  intro p hp
  rcases List.mem_cons.mp hp with rfl | hp
  · exact ⟨(Heap.get?_update_ne _ _ _ _ (Ne.symm hte)).trans he.1, he.2⟩
  · rcases List.mem_cons.mp hp with rfl | hp
    · exact ⟨Heap.get?_update_self _ htb.1 (Obj.isFreed_of_fields (Obj.data_mapFields hdt _)), htb.2⟩
    · have h9 := N p (.tail _ (.tail _ hp))
      exact ⟨(Heap.get?_update_ne _ _ _ _ (hne p hp).1).trans h9.1, h9.2⟩
theorem x_again {Q : Unit → Shared → Prop} (N : News g L s.heap ((e, oe) :: (tb, otb) :: nw)) (H : Exc X e tb oe otb c (rawInt L)) (hQ : Q () s) : wpAny M A (noteFrame (.ref e) (envOf name scope L af cd)) Q E s := by
  obtain ⟨hcls, ⟨vs, hd, h1, h2⟩, ⟨ts, hdt, h3⟩, hte⟩ := H
  exact wpAny_noteFrame_inFlight rfl (N _ (.head _)).1 hd h1 (N _ (.tail _ (.head _))).1 hdt h3 hQ
theorem x_came (F : Fr g L s.heap m) (N : News g L s.heap ((e, oe) :: (tb, otb) :: nw)) (H : Exc X e tb oe otb c fl) (hne : ∀ p ∈ nw, p.1 ≠ tb ∧ p.1 ≠ e)
    (k : ∀ h' otb', Fr g L h' m → News g L h' ((e, oe) :: (tb, otb') :: nw) → Exc X e tb oe otb' c (rawInt L) → E (.ref e) { s with heap := h' }) : cameBackBy M A (envOf name scope L af cd) E (.ref e) s := by
  have H' := H
  obtain ⟨hcls, ⟨vs, hd, h1, h2⟩, ⟨ts, hdt, h3⟩, hte⟩ := H
  unfold cameBackBy
  refine wpAny_bind (wpAny_field (N _ (.head _)).1 hd h1 ?_)
  rw [if_neg (by simp)]
  exact x_flight F N H' hne k
theorem x_pass {α : Type} {what : String} {Q : α → Shared → Prop} (F : Fr g L s.heap m) (N : News g L s.heap ((e, oe) :: (tb, otb) :: nw)) (H : Exc X e tb oe otb c fl) (hne : ∀ p ∈ nw, p.1 ≠ tb ∧ p.1 ≠ e)
    (k : ∀ h' otb', Fr g L h' m → News g L h' ((e, oe) :: (tb, otb') :: nw) → Exc X e tb oe otb' c (rawInt L) → E (.ref e) { s with heap := h' }) : wpAny M A (PySem.passOn what (.ref e) (envOf name scope L af cd)) Q E s := by
  have H' := H
  obtain ⟨hcls, ⟨vs, hd, h1, h2⟩, ⟨ts, hdt, h3⟩, hte⟩ := H
  unfold PySem.passOn
  refine wpAny_bind (wpAny_field (N _ (.head _)).1 hd h1 ?_)
  rw [if_neg (by simp)]
  exact wpAny_bind (x_flight F N H' hne fun h' otb' F' N' H' => wpAny_throw (k h' otb' F' N' H'))
theorem x_pack {h : Heap} (F : Fr g L h m) (N : News g L h ((e, oe) :: (tb, otb) :: nw)) (H : Exc X e tb oe otb c fl) (hne : ∀ p ∈ nw, p.1 ≠ tb ∧ p.1 ≠ e) : TT.HeldNA g L h m e X nw fl := by
  obtain ⟨hcls, ⟨vs, hd, h1, h2⟩, ⟨ts, hdt, h3⟩, hte⟩ := H
  have he := N _ (.head _)
  have htb := N _ (.tail _ (.head _))
  refine ⟨⟨F, ⟨oe, vs, tb, otb, ts, he.1, hcls, hd, h1, htb.1, hdt, h3, htb.2.1, hte, htb.2.2⟩, he.2.2⟩, fun p hp => N p (.tail _ (.tail _ hp)), ?_⟩
  intro ob vs' tb' e1 e2 e3 p hp
  have q1 : some ob = some oe := e1.symm.trans he.1
  cases q1
  rw [hd] at e2
  cases e2
  rw [h1] at e3
  cases e3
  exact (hne p hp).1
end
section
variable {prog : Program} {w : World} {A : Around} {E : Value → Shared → Prop} {s : Shared} {g : Heap} {L : Addr} {news : List (Addr × Obj)} {Q : Value → Shared → Prop} {value slice : PySem.Expr} {D : Addr} {l : List (Str × Tok)} {xs : List Str} {ep : Nat} {k : Int} {u : Tok}
theorem idx_held {e tb : Addr} {oe otb : Obj} {X : String} {fl : Value} {n : Nat} (hA : A.handled = some (.ref e)) (N : News g L s.heap news) (he : (e, oe) ∈ news) (H : Exc X e tb oe otb .none fl) (hm : (D, ({ cls := .type "list", data := .seq (strValues l).toArray ep } : Obj)) ∈ news) (hl : l.map (·.1) = xs) (hk : k = (n : Int)) (hx : xs[n]? = none) (hk2 : k < 2 ^ 63)
    (hE : ∀ h' tk e', NewExcC s.heap h' e' "IndexError" (.ref e) → E (.ref e') { s with heap := h', toks := tk })
    (hs : subscripted slice false (.ref D) (.int k u) = operate [.ref D, .int k u] (getItem (.ref D) (.int k u))) :
    wpAny (model prog w) A (subscriptTail value slice (.ref D) (.int k u)) Q E s := by
  obtain ⟨hcls, ⟨vs, hd, h1, h2⟩, ⟨ts, hdt, h3⟩, hte⟩ := H
  have hge : xs.length ≤ n := List.getElem?_eq_none_iff.mp hx
  have hz : (strValues l).toArray.size = xs.length := by rw [← hl]; simp [strValues]
  have hli : s.heap.IsList D (strValues l).toArray := ⟨_, (N _ hm).1, rfl, ep, rfl⟩
  subst hk
  exact tail_any hli.typeIs slot_list_getitem.lookup (getItem_out_held hA (N _ he).1 hd h2 hli (by rw [hz]; omega) (by omega) hk2 hE) hs
end
section
variable {prog : Program} {w : World} {A : Around} {E : Value → Shared → Prop} {s : Shared} {h₀ : Heap} {L : Addr} {m : Str → Option Value} {news : List (Addr × Obj)} {Q : Value → Shared → Prop} {value slice : PySem.Expr} {vl vu : Value}
theorem slice_tail {D : Addr} {l : List (Str × Tok)} {k n : Nat} {i : Int} (F : Fr h₀ L s.heap m) (N : News h₀ L s.heap news) (hm : (D, ({ cls := .type "list", data := .seq (strValues l).toArray k } : Obj)) ∈ news) (hl : l.length ≤ 1000) (hi : i = (n : Int)) (pl : IsPart vl (some i)) (pu : IsPart vu none)
    (h : ∀ D' h', Fr h₀ L h' m → News h₀ L h' ((D', W.listOf (strValues (l.drop n)).toArray 0) :: news) → (∀ p ∈ news, p.1 < D') → Q (.ref D') { s with heap := h' })
    (hs : subscripted slice false (.ref D) (.ref s.heap.objs.size) = operate [.ref s.heap.objs.size, .ref D] (getItem (.ref D) (.ref s.heap.objs.size))) (ht : ∀ r, letTemporaryGo value (.ref D) r = pure ()) :
    wpAny (model prog w) A (subscriptTail value slice (.ref D) (.ref s.heap.objs.size)) Q E { s with heap := s.heap.push { cls := .type "slice", data := .fields #[vl, vu, .none] } } := by
  have hz : (strValues l).toArray.size = l.length := by simp [strValues]
  have hsl : sizeLine = 16777216 := by decide
  refine kmk_slice F N ⟨_, (N _ hm).1, rfl, k, rfl⟩ pl pu (fun D' h' F' N' l1 => h D' h' F' ?_ l1) hs ht (by rw [hz]; omega)
  subst hi
  have e : sliceBounds (some (n : Int)) none none (strValues l).toArray.size = (((min n (strValues l).toArray.size : Nat) : Int), (((strValues l).toArray.size : Nat) : Int), 1) := by
    simp only [sliceBounds, Option.getD_none, show (1 : Int) > 0 by decide, if_true, if_neg (show ¬ ((n : Int) < 0) by omega)]
    congr 1
    omega
  rw [kmk_pick_nat _ e] at N'
  have e2 : (((strValues l).toArray.toList.drop (min n (strValues l).toArray.size)).take ((strValues l).toArray.size - min n (strValues l).toArray.size)).toArray = (strValues (l.drop n)).toArray := by
    have h1 : (strValues l).drop (min n (strValues l).length) = (strValues l).drop n := kmk_drop_min _ _
    show (((strValues l).drop (min n (strValues l).toArray.size)).take _).toArray = _
    rw [List.size_toArray, h1, List.take_of_length_le (by rw [List.length_drop]; omega)]
    simp [strValues, List.map_drop]
  rw [e2] at N'
  exact N'
theorem ext_S {P b : Addr} {l l2 : List (Str × Tok)} {ep n2 : Nat} {rest : List (Addr × Obj)} (F : Fr h₀ L s.heap m) (N : News h₀ L s.heap ((P, W.listOf (strValues l).toArray ep) :: rest)) (hoff : ∀ p ∈ rest, p.1 ≠ P) (hb : (b, W.listOf (strValues l2).toArray n2) ∈ rest) (hl : l.length ≤ 1000) (hl2 : l2.length ≤ 1000)
    (h : ∀ h' ep', Fr h₀ L h' m → News h₀ L h' ((P, W.listOf (strValues (l ++ l2)).toArray ep') :: rest) → Q .none { s with heap := h' }) :
    wpAny (model prog w) A (call (.builtin "list.extend") [.ref P, .ref b]) Q E s := by
  have hz : ∀ l : List (Str × Tok), (strValues l).toArray.size = l.length := fun l => by simp [strValues]
  have hy : ∀ l : List (Str × Tok), (strValues l).toArray.toList.length = l.length := fun l => by simp [strValues]
  have hsl : sizeLine = 16777216 := by decide
  have hno : ¬(!(strValues l).toArray.isEmpty && Builtin.List.listTooLong ((strValues l).toArray.size + (strValues l2).toArray.size)) = true := by
    rw [hz, hz]
    have : Builtin.List.listTooLong (l.length + l2.length) = false := by
      unfold Builtin.List.listTooLong
      simp
      omega
    rw [this]
    simp
  by_cases h0 : l2 = []
  · subst h0
    refine kxn_extend (news' := (P, W.listOf (strValues l).toArray ep) :: rest) F N (.tail _ hb) rfl (.head hoff) hno (by rw [hy]; omega) (by rw [hz, hz]; omega) (fun h' F' N' => h h' ep F' ?_)
    rw [List.append_nil]
    exact N'
  · have hne : (strValues l2).toArray.toList.length ≠ 0 := by
      rw [hy]
      exact fun q => h0 (List.length_eq_zero_iff.mp q)
    have e : (strValues l).toArray.toList ++ (strValues l2).toArray.toList = strValues (l ++ l2) := by simp [strValues]
    exact kl_extend (news' := (P, W.listOf (strValues (l ++ l2)).toArray (ep + 1)) :: rest) F N (.tail _ hb) e hne (.head hoff) hno (by rw [hy]; omega) (by rw [hz, hz]; omega) (fun h' F' N' => h h' (ep + 1) F' N')
end
end Mine
end
-- O4
section
open PySem PySem.W PyProof.Rows
namespace Mine
local macro_rules | `(tactic| walk_at "no such key") => `(tactic| skip)
local macro_rules | `(tactic| walk_at "no such key") => `(tactic| skip)
local macro_rules | `(tactic| walk_at "no such key") => `(tactic| skip)
local macro_rules | `(tactic| walk_at "no such key") => `(tactic| skip)
local macro_rules | `(tactic| walk_at "no such key") => `(tactic| skip)
local macro_rules | `(tactic| walk_at "no such key") => `(tactic| skip)
local macro_rules | `(tactic| walk_at "no such key") => `(tactic| skip)
local macro_rules | `(tactic| walk_at "no such key") => `(tactic| skip)
local macro_rules | `(tactic| walk_at "no such key") => `(tactic| skip)
local macro_rules | `(tactic| walk_at "no such key") => `(tactic| skip)
local macro_rules | `(tactic| walk_at "no such key") => `(tactic| skip)
local macro_rules | `(tactic| walk_at "no such key") => `(tactic| skip)
local macro_rules | `(tactic| walk_at "no such key") => `(tactic| skip)
local macro_rules | `(tactic| walk_at "no such key") => `(tactic| skip)
local macro_rules | `(tactic| walk_at "no such key") => `(tactic| skip)
local macro_rules | `(tactic| walk_at "no such key") => `(tactic| skip)
local macro_rules | `(tactic| walk_at "no such key") => `(tactic| skip)
local macro_rules | `(tactic| walk_at "no such key") => `(tactic| skip)
local macro_rules | `(tactic| walk_at "no such key") => `(tactic| skip)
local macro_rules | `(tactic| walk_at "no such key") => `(tactic| skip)
local macro_rules | `(tactic| walk_at "no such key") => `(tactic| skip)
local macro_rules | `(tactic| walk_at "no such key") => `(tactic| skip)
local macro_rules | `(tactic| walk_at "no such key") => `(tactic| skip)
local macro_rules | `(tactic| walk_at "no such key") => `(tactic| skip)
local macro_rules | `(tactic| walk_at "no such key") => `(tactic| skip)
local macro_rules | `(tactic| walk_at "no such key") => `(tactic| skip)
local macro_rules | `(tactic| walk_at "no such key") => `(tactic| skip)
local macro_rules | `(tactic| walk_at "no such key") => `(tactic| skip)
local macro_rules | `(tactic| walk_at "no such key") => `(tactic| skip)
local macro_rules | `(tactic| walk_at "no such key") => `(tactic| skip)
theorem fresh_UnO4 : True := by (w_top off; k_with_none; trivial)
theorem fillO4 : (fun (_ : OpenLaw) (_ : Params → Frag) => True) PySem.Challenge.rw_un0006_01 hd.heap_39 := by (k_fill; trivial)
/-- a turn's end in a while: on, or out -/
def TurnW (s₀ : Shared) (g : Heap) (L : Addr) (J : Nat → (Str → Option Value) → List (Addr × Obj) → Prop) (Bk : (Str → Option Value) → List (Addr × Obj) → Prop) (n : Nat) (f : Flow) (s₃ : Shared) : Prop :=
  ∃ h' tk' m' nw', s₃ = { s₀ with heap := h', toks := tk' } ∧ Fr g L h' m' ∧ News g L h' nw' ∧ ((f = .next ∧ ∃ n', n' < n ∧ J n' m' nw') ∨ (f = .brk ∧ Bk m' nw'))
theorem while_brk {prog : Program} {w : World} {A : Around} {s₀ : Shared} {g : Heap} {L : Addr} {test : PySem.Expr} {body : List Stmt} {env : Env} {R : Result → Shared → Prop}
    (J : Nat → (Str → Option Value) → List (Addr × Obj) → Prop) (Bk : (Str → Option Value) → List (Addr × Obj) → Prop)
    (turn : ∀ n m nw h tk, J n m nw → Fr g L h m → News g L h nw →
      wpAny (model prog w) A (isTrue test env (eval test env)) (fun b s₂ => if b = true then wpAny (model prog w) A (execs body env) (TurnW s₀ g L J Bk n) (notedBy (model prog w) A env fun e s' => R (.error e) s') s₂ else False) (notedBy (model prog w) A env fun e s' => R (.error e) s') { s₀ with heap := h, toks := tk })
    (brk : ∀ m nw h tk, Bk m nw → Fr g L h m → News g L h nw → R (.ok .next) { s₀ with heap := h, toks := tk })
    {n : Nat} {m : Str → Option Value} {nw : List (Addr × Obj)} {h : Heap} {tk : Nat} (F : Fr g L h m) (N : News g L h nw) (h0 : J n m nw) :
    codeAny (model prog w) A (.whileLoop test body [] env) R { s₀ with heap := h, toks := tk } := by
  refine codeAny_whileLoop (fun n s' => ∃ h' tk' m' nw', s' = { s₀ with heap := h', toks := tk' } ∧ Fr g L h' m' ∧ News g L h' nw' ∧ J n m' nw') ?_ n ⟨h, tk, m, nw, rfl, F, N, h0⟩
  rintro n s' ⟨h', tk', m', nw', rfl, F', N', J'⟩
  refine wpAny_mono (turn n m' nw' h' tk' J' F' N') (fun b s₂ h₂ => ?_) fun _ _ e => e
  cases b with
  | false => simp at h₂
  | true =>
    simp only [if_true] at h₂ ⊢
    refine wpAny_mono h₂ (fun f s₃ h₃ => ?_) fun _ _ e => e
    obtain ⟨h₄, tk₄, m₄, nw₄, rfl, F₄, N₄, hf⟩ := h₃
    rcases hf with ⟨rfl, n', hn, J₄⟩ | ⟨rfl, hB⟩
    · exact ⟨n', hn, h₄, tk₄, m₄, nw₄, rfl, F₄, N₄, J₄⟩
    · exact brk m₄ nw₄ h₄ tk₄ hB F₄ N₄
/-- the function's frame -/
abbrev sldV (a1 a2 : Addr) (i j : Value) (M U : Addr) (ve va : Option Value) : Str → Option Value := fun y =>
  if y = Str.ofString "a" then va else if y = Str.ofString "e" then ve else if y = Str.ofString "unexpected" then some (.ref U) else if y = Str.ofString "missing" then some (.ref M) else if y = Str.ofString "j" then some j else if y = Str.ofString "i" then some i else if y = Str.ofString "actual" then some (.ref a2) else if y = Str.ofString "expected" then some (.ref a1) else none
theorem sld_startA {a1 a2 M U : Addr} {i j : Value} (y : Str) : (if y = Str.ofString "unexpected" then some (Value.ref U) else if y = Str.ofString "missing" then some (Value.ref M) else if y = Str.ofString "j" then some j else if y = Str.ofString "i" then some i else List.lookup y [(Str.ofString "actual", .ref a2), (Str.ofString "expected", .ref a1)]) = sldV a1 a2 i j M U none none y := by
  by_cases h1 : y = Str.ofString "a"
  · subst h1; rfl
  · by_cases h2 : y = Str.ofString "e"
    · subst h2; rfl
    · by_cases h3 : y = Str.ofString "actual"
      · subst h3; rfl
      · by_cases h4 : y = Str.ofString "expected"
        · subst h4; rfl
        · have e3 : (y == Str.ofString "actual") = false := by rw [beq_eq_false_iff_ne]; exact h3
          have e4 : (y == Str.ofString "expected") = false := by rw [beq_eq_false_iff_ne]; exact h4
          simp only [sldV, h1, h2, h3, h4, if_false, List.lookup, e3, e4]
theorem sld_startB {a1 a2 M U : Addr} {i j : Value} (y : Str) : (if y = Str.ofString "unexpected" then some (Value.ref U) else if y = Str.ofString "missing" then some (Value.ref M) else if y = Str.ofString "j" then some j else if y = Str.ofString "i" then some i else List.lookup y [(Str.ofString "expected", .ref a1), (Str.ofString "actual", .ref a2)]) = sldV a1 a2 i j M U none none y := by
  by_cases h1 : y = Str.ofString "a"
  · subst h1; rfl
  · by_cases h2 : y = Str.ofString "e"
    · subst h2; rfl
    · by_cases h3 : y = Str.ofString "actual"
      · subst h3; rfl
      · by_cases h4 : y = Str.ofString "expected"
        · subst h4; rfl
        · have e3 : (y == Str.ofString "actual") = false := by rw [beq_eq_false_iff_ne]; exact h3
          have e4 : (y == Str.ofString "expected") = false := by rw [beq_eq_false_iff_ne]; exact h4
          simp only [sldV, h1, h2, h3, h4, if_false, List.lookup, e3, e4]
/-- an item, or none, at a place -/
def At1 (xs : List Str) (k : Int) (x : Option Str) : Prop := ∃ n : Nat, k = (n : Int) ∧ xs[n]? = x
section
variable {prog : Program} {w : World} {A : Around} {E : Value → Shared → Prop} {s : Shared} {g : Heap} {L : Addr} {news : List (Addr × Obj)} {Q : Value → Shared → Prop} {value slice : PySem.Expr} {D : Addr} {l : List (Str × Tok)} {xs : List Str} {ep : Nat} {k : Int} {u : Tok}
theorem idx_in {x : Str} (N : News g L s.heap news) (hm : (D, ({ cls := .type "list", data := .seq (strValues l).toArray ep } : Obj)) ∈ news) (hl : l.map (·.1) = xs) (hn : xs.length ≤ 1000) (ha : At1 xs k (some x)) (h : ∀ t, Q (.str x t) s)
    (hs : subscripted slice false (.ref D) (.int k u) = operate [.ref D, .int k u] (getItem (.ref D) (.int k u))) (hg : ∀ r, letTemporaryGo value (.ref D) r = pure ()) :
    wpAny (model prog w) A (subscriptTail value slice (.ref D) (.int k u)) Q E s := by
  obtain ⟨n, rfl, hx⟩ := ha
  have hlt : n < xs.length := (List.getElem?_eq_some_iff.mp hx).1
  subst hl
  rw [List.getElem?_map] at hx
  obtain ⟨p, hp, rfl⟩ := Option.map_eq_some_iff.mp hx
  refine item_list ⟨_, (N _ hm).1, rfl, ep, rfl⟩ (by omega) (by omega) ?_ (h p.2) hs hg
  simp [strValues, hp]
theorem idx_out (hA : A.handled = none) (N : News g L s.heap news) (hm : (D, ({ cls := .type "list", data := .seq (strValues l).toArray ep } : Obj)) ∈ news) (hl : l.map (·.1) = xs) (hn : xs.length ≤ 1000) (ha : At1 xs k none) (hk : k < 2 ^ 63)
    (hE : ∀ h' tk e, Heap.NewExc s.heap h' e "IndexError" → E (.ref e) { s with heap := h', toks := tk })
    (hs : subscripted slice false (.ref D) (.int k u) = operate [.ref D, .int k u] (getItem (.ref D) (.int k u))) (hg : ∀ r, letTemporaryGo value (.ref D) r = pure ()) :
    wpAny (model prog w) A (subscriptTail value slice (.ref D) (.int k u)) Q E s := by
  obtain ⟨n, rfl, hx⟩ := ha
  have hge : xs.length ≤ n := List.getElem?_eq_none_iff.mp hx
  have hz : (strValues l).toArray.size = xs.length := by rw [← hl]; simp [strValues]
  refine item_outK (items := (strValues l).toArray) hA ⟨_, (N _ hm).1, rfl, ep, rfl⟩ (.inr (by rw [hz]; omega)) (by omega) hk hE hs
end
section
variable {prog : Program} {w : World} {A : Around} {E : Value → Shared → Prop} {s : Shared} {Q : Value → Shared → Prop} {x y : Str} {t u : Tok}
theorem lt_no (h : ¬ x.cps.toList < y.cps.toList) (hq : Q (.bool false) s) : wpAny (model prog w) A (compareOp .Lt (.str x t) (.str y u)) Q E s := by
  refine lt_str ?_
  rw [decide_eq_false h]
  exact hq
theorem lt_yes (h : x.cps.toList < y.cps.toList) (hq : Q (.bool true) s) : wpAny (model prog w) A (compareOp .Lt (.str x t) (.str y u)) Q E s := by
  refine lt_str ?_
  rw [decide_eq_true h]
  exact hq
theorem gt_no (h : ¬ y.cps.toList < x.cps.toList) (hq : Q (.bool false) s) : wpAny (model prog w) A (compareOp .Gt (.str x t) (.str y u)) Q E s := by
  refine P.gt_str ?_
  rw [decide_eq_false h]
  exact hq
theorem eq_no (h : x ≠ y) (hq : Q (.bool false) s) : wpAny (model prog w) A (compareOp .Eq (.str x t) (.str y u)) Q E s := by
  refine eq_str ?_
  rw [beq_eq_false_iff_ne.mpr h]
  exact hq
theorem lt_self (x : Str) : ¬ x.cps.toList < x.cps.toList := List.lt_irrefl (α := Nat) _
end
theorem while_no {prog : Program} {w : World} {A : Around} {E : Value → Shared → Prop} {Q : Flow → Shared → Prop} {s : Shared} {test : PySem.Expr} {body : List Stmt} {pos : Pos} {env : Env}
    (h : wpAny (model prog w) A (isTrue test env (eval test env)) (fun b s₂ => if b = true then False else Q .next s₂) (notedBy (model prog w) A env (cameBackBy (model prog w) A env E)) s) : wpAny (model prog w) A (exec (.While test body [] pos) env) Q E s := by
  refine wpAny_While (codeAny_whileLoop (fun _ s' => s' = s) ?_ 0 rfl)
  rintro _ s' rfl
  refine wpAny_mono h (fun b s₂ h₂ => ?_) fun _ _ e => e
  cases b with
  | true => simp at h₂
  | false =>
    simp only [Bool.false_eq_true, if_false] at h₂ ⊢
    exact wpAny_execs_nil h₂
theorem sld_same {a1 a2 M U : Addr} {i j i' j' xa xe : Value} {ve va : Option Value} (y : Str) : (if y = Str.ofString "j" then some j' else if y = Str.ofString "i" then some i' else if y = Str.ofString "a" then some xa else if y = Str.ofString "e" then some xe else sldV a1 a2 i j M U ve va y) = sldV a1 a2 i' j' M U (some xe) (some xa) y := by
  by_cases h1 : y = Str.ofString "a"
  · subst h1; rfl
  · by_cases h2 : y = Str.ofString "e"
    · subst h2; rfl
    · by_cases h3 : y = Str.ofString "unexpected"
      · subst h3; rfl
      · by_cases h4 : y = Str.ofString "missing"
        · subst h4; rfl
        · simp only [sldV, h1, h2, h3, h4, if_false]
          split
          · rfl
          · split <;> rfl
theorem sld_less {a1 a2 M U : Addr} {i j i' xa xe : Value} {ve va : Option Value} (y : Str) : (if y = Str.ofString "i" then some i' else if y = Str.ofString "a" then some xa else if y = Str.ofString "e" then some xe else sldV a1 a2 i j M U ve va y) = sldV a1 a2 i' j M U (some xe) (some xa) y := by
  by_cases h1 : y = Str.ofString "a"
  · subst h1; rfl
  · by_cases h2 : y = Str.ofString "e"
    · subst h2; rfl
    · by_cases h3 : y = Str.ofString "unexpected"
      · subst h3; rfl
      · by_cases h4 : y = Str.ofString "missing"
        · subst h4; rfl
        · by_cases h5 : y = Str.ofString "j"
          · subst h5; rfl
          · simp only [sldV, h1, h2, h3, h4, h5, if_false]
            split <;> rfl
theorem sd_len {xs ys : List Str} {i j : Nat} {ms us : List Str} (h : SD xs ys i j ms us) : ms.length + i ≤ xs.length := by
  induction h with
  | same h1 _ _ _ _ _ _ ih => omega
  | less h1 _ _ _ _ _ ih => simp only [List.length_cons]; omega
  | last h1 _ _ _ _ => have := (List.getElem?_eq_some_iff.mp h1).1; rw [List.length_drop]; omega
  | both h1 _ _ _ => have := (List.getElem?_eq_some_iff.mp h1).1; rw [List.length_drop]; omega
theorem sd_len2 {xs ys : List Str} {i j : Nat} {ms us : List Str} (h : SD xs ys i j ms us) : us.length ≤ ys.length := by
  induction h with
  | same _ _ _ _ _ _ _ ih => exact ih
  | less _ _ _ _ _ _ ih => exact ih
  | last _ _ _ _ _ => rw [List.length_drop]; omega
  | both _ _ _ _ => rw [List.length_drop]; omega
theorem re4 {g h : Heap} {L : Addr} {a b c d : Addr × Obj} {rest : List (Addr × Obj)} (N : News g L h (a :: b :: c :: d :: rest)) : News g L h (d :: a :: b :: c :: rest) :=
  fun p hp => N p (by simp only [List.mem_cons] at hp ⊢; rcases hp with h | h | h | h | h <;> simp [h])
theorem re_end {g h : Heap} {L : Addr} {a b c d : Addr × Obj} {rest : List (Addr × Obj)} (N : News g L h (a :: b :: c :: d :: rest)) : News g L h (a :: c :: rest) :=
  fun p hp => N p (by simp only [List.mem_cons] at hp ⊢; rcases hp with h | h | h <;> simp [h])
theorem lt_irr {x : Str} {P : Prop} (h : x.cps.toList < x.cps.toList) : P := absurd h (List.lt_irrefl (α := Nat) _)
local macro_rules | `(tactic| walk_at "exec While") => `(tactic| (k_here; k_dflt (refine Hold.out ?_)))
local macro_rules | `(tactic| walk_at "passOn") => `(tactic| (k_here; k_dflt (refine Hold.out ?_)))
local macro_rules | `(tactic| walk_at "subscriptTail Name Slice ref ref") => `(tactic| (k_here; k_dflt (refine Hold.out ?_)))
local macro_rules | `(tactic| walk_at "call builtin:list.extend") => `(tactic| (k_here; k_dflt (refine Hold.out ?_)))
local macro_rules | `(tactic| walk_at "LeaveI") => `(tactic| (k_here; k_dflt (refine Hold.out ?_)))
local macro_rules | `(tactic| walk_at "noteFrame ref") => `(tactic| (k_here; k_dflt (refine Hold.out ?_)))
local macro_rules | `(tactic| walk_at "call builtin:list.append") => `(tactic| (k_here; k_dflt (refine Hold.out ?_)))
local macro_rules | `(tactic| walk_at "subscriptTail Name Name ref int") => `(tactic| (k_here; (with_reducible show wpAny _ _ (subscriptTail _ _ (Value.ref _) (Value.int _ _)) _ _ _); k_dflt (refine Hold.out ?_)))
local macro_rules | `(tactic| walk_at "subscriptTail Name Name ref int") => `(tactic| (k_here; (with_reducible show wpAny _ _ (subscriptTail _ _ (Value.ref _) (Value.int _ _)) _ _ _); k_dflt (refine' idx_out ?h ?N ?m ?l ?n ?a ?k ?_ ?s ?g; (case h => rfl); (case N => k_asm); (case m => first | exact .tail _ (.tail _ (List.mem_append_left _ (by assumption))) | exact .tail _ (.tail _ (.tail _ (.tail _ (List.mem_append_left _ (by assumption)))))); (case l => assumption); (case n => assumption); (case a => assumption); (case k => omega); (case s => with_unfolding_all rfl); (case g => intro _; with_unfolding_all rfl); k_whole); intro h' tk' e' x'))
local macro_rules | `(tactic| walk_at "subscriptTail Name Name ref int") => `(tactic| (k_here; (with_reducible show wpAny _ _ (subscriptTail _ _ (Value.ref _) (Value.int _ _)) _ _ _); k_dflt (refine' idx_in ?N ?m ?l ?n ?a ?_ ?s ?g; (case N => k_asm); (case m => first | exact .tail _ (.tail _ (List.mem_append_left _ (by assumption))) | exact .tail _ (.tail _ (.tail _ (.tail _ (List.mem_append_left _ (by assumption)))))); (case l => assumption); (case n => assumption); (case a => assumption); (case s => with_unfolding_all rfl); (case g => intro _; with_unfolding_all rfl); k_whole); intro t'))
local macro_rules | `(tactic| walk_at "exec While") => `(tactic| (k_here; (with_reducible show wpAny _ _ (exec (Stmt.While (PySem.Expr.Compare _ _ _ _) _ _ _) _) _ _ _); k_dflt (refine while_no ?_)))
local macro_rules | `(tactic| walk_at "compareOp Lt str str") => `(tactic| (k_here; first | (refine lt_no (lt_self _) ?_) | (refine lt_yes (by assumption) ?_)))
local macro_rules | `(tactic| walk_at "compareOp Gt str str") => `(tactic| (k_here; refine gt_no (lt_self _) ?_))
local macro_rules | `(tactic| walk_at "compareOp Eq str str") => `(tactic| (k_here; refine eq_no (by assumption) ?_))
theorem sld_law {prog : Program} {w : World} {mean : ExcName → Option Value} {mg mb : Str → Option Value} {cn : Str} {cs : Scope} {a : Addr} {ccd : Value} {h₀ : Heap} {L : Addr} {m : Str → Option Value} {news : List (Addr × Obj)} {s : Shared} {Q E : Value → Shared → Prop} {a1 a2 : Addr} {l1 l2 : List (Str × Tok)} {xs ys ms us : List Str} {k1 k2 : Nat}
    (F : Fr h₀ L s.heap m) (X : (hd.heap_39 w.params).In h₀) (N : News h₀ L s.heap news) (T : TopU mean mg mb h₀) (hk : cs.kind = .function)
    (hm1 : (a1, ({ cls := .type "list", data := .seq (strValues l1).toArray k1 } : Obj)) ∈ news) (hm2 : (a2, ({ cls := .type "list", data := .seq (strValues l2).toArray k2 } : Obj)) ∈ news) (hl1 : l1.map (·.1) = xs) (hl2 : l2.map (·.1) = ys)
    (hn1 : xs.length ≤ 1000) (hn2 : ys.length ≤ 1000) (hs : SD xs ys 0 0 ms us)
    (hret : ∀ (p M U : Addr) (lm lu : List (Str × Tok)) (em eu : Nat) (h' : Heap) (tk' : Nat), lm.map (·.1) = ms → lu.map (·.1) = us → Fr h₀ L h' m → News h₀ L h' ((p, { cls := .type "tuple", data := .seq #[.ref M, .ref U] }) :: (U, W.listOf (strValues lu).toArray eu) :: (M, W.listOf (strValues lm).toArray em) :: news) → Q (.ref p) { s with heap := h', toks := tk' }) :
    wpAny (model prog w) (callerA.deeper (envOf cn cs L a ccd)) (call (.ref 109) [.ref a1, .ref a2]) Q E s := by
  refine wpAny_call ?_
  k_dflt (refine TLgL.code_def (by k_asm) (by k_asm) (by k_asm) (by k_asm) (by rfl) (by k_is) (by k_is) (by k_room) (by first | exact binds_K (by k_in) rfl (by k_is) rfl rfl rfl | exact BindsTo.of_eq rfl) (locs rfl) ?_ hk)
  intro oL h1 tiC tiF tiE F1 N1
  (try dsimp only)
  clear F N
  k_steps
  refine Hold.mk ?_
  with_reducible rename Fr _ _ _ _ => F1
  with_reducible rename News _ _ _ (_ :: _) => N1
  rename_i M b2 lM b4 b5 U b7 lU b9
  have F2 : Fr _ _ _ (sldV a1 a2 _ _ _ _ none none) := fr_eq F1 fun y => by
    first
      | with_unfolding_all exact sld_startA y
      | with_unfolding_all exact sld_startB y
  clear F1
  have hLM : L < M := lM (L, oL) (List.mem_append_right _ (.head _))
  have hnL : ∀ ou om, ∀ p ∈ ((U, ou) :: (M, om) :: news), p.1 ≠ L := fun ou om p hp => by
    rcases List.mem_cons.mp hp with rfl | hp
    · exact Ne.symm (Nat.ne_of_lt (Nat.lt_trans hLM lU.1))
    · rcases List.mem_cons.mp hp with rfl | hp
      · exact Ne.symm (Nat.ne_of_lt hLM)
      · exact tiE p hp
  have hMr : ∀ (o ou : Obj), ∀ p ∈ ((U, ou) :: (news ++ [(L, o)])), p.1 ≠ M := fun o ou p hp => by
    rcases List.mem_cons.mp hp with rfl | hp
    · exact Ne.symm (Nat.ne_of_lt lU.1)
    · rcases List.mem_append.mp hp with hp | hp
      · exact Nat.ne_of_lt (lM p (List.mem_append_left _ hp))
      · rw [List.mem_singleton.mp hp]
        exact Nat.ne_of_lt hLM
  have hUr : ∀ (o : Obj), ∀ p ∈ (news ++ [(L, o)]), p.1 ≠ U := fun o p hp => by
    rcases List.mem_append.mp hp with hp | hp
    · exact Nat.ne_of_lt (Nat.lt_trans (lM p (List.mem_append_left _ hp)) lU.1)
    · rw [List.mem_singleton.mp hp]
      exact Nat.ne_of_lt (Nat.lt_trans hLM lU.1)
  have hMU : M ≠ U := Nat.ne_of_lt lU.1
  have hmsl : ms.length ≤ 1000 := by have := sd_len hs; omega
  have husl : us.length ≤ 1000 := by have := sd_len2 hs; omega
  have hll1 : l1.length ≤ 1000 := by have := congrArg List.length hl1; rw [List.length_map] at this; omega
  have hll2 : l2.length ≤ 1000 := by have := congrArg List.length hl2; rw [List.length_map] at this; omega
  refine wpAny_While ?_
  refine while_brk (s₀ := s) (n := xs.length)
    (fun n m nw => ∃ (i j : Nat) (ti tj : Tok) (ve va : Option Value) (lm lu : List (Str × Tok)) (em eu : Nat) (ms' us' : List Str), m = sldV a1 a2 (.int (i : Int) ti) (.int (j : Int) tj) M U ve va ∧ nw = (U, W.listOf (strValues lu).toArray eu) :: (M, W.listOf (strValues lm).toArray em) :: (news ++ [(L, oL)]) ∧ n + i = xs.length ∧ SD xs ys i j ms' us' ∧ lm.map (·.1) ++ ms' = ms ∧ lu.map (·.1) ++ us' = us)
    (fun m nw => ∃ (i j : Value) (ve va : Option Value) (lm lu : List (Str × Tok)) (em eu : Nat) (sl : Array (Option Value)), m = sldV a1 a2 i j M U ve va ∧ nw = (U, W.listOf (strValues lu).toArray eu) :: (M, W.listOf (strValues lm).toArray em) :: (news ++ [(L, { oL with slots := sl })]) ∧ lm.map (·.1) = ms ∧ lu.map (·.1) = us)
    ?_ ?_ F2 N1 ⟨0, 0, _, _, none, none, [], [], 0, 0, ms, us, rfl, rfl, by simp, hs, rfl, rfl⟩
  · rintro n m' nw h tk' ⟨i, j, ti, tj, ve, va, lm, lu, em, eu, ms', us', rfl, rfl, hn, hS, hms, hus⟩ F3 N3
    clear F2 N1 hret hs
    cases hS with
    | same h1 h2 h3 h4 h5 h6 h7 =>
      have hi : i < xs.length := (List.getElem?_eq_some_iff.mp h1).1
      have hn1' : n - 1 < n := by omega
      have hn2' : n - 1 + (i + 1) = xs.length := by omega
      have A1 : At1 xs (i : Int) _ := ⟨i, rfl, h1⟩
      have A2 : At1 ys (j : Int) _ := ⟨j, rfl, h2⟩
      have A3 : At1 xs ((i : Int) + 1) _ := ⟨i + 1, by omega, h3⟩
      have A4 : At1 ys ((j : Int) + 1) _ := ⟨j + 1, by omega, h5⟩
      clear h1 h2 h3 h5
      k_steps
      with_reducible rename Fr _ _ _ _ => FZ
      with_reducible rename News _ _ _ _ => NZ
      exact ⟨_, _, _, _, rfl, fr_eq FZ sld_same, NZ, .inl ⟨rfl, n - 1, hn1', i + 1, j + 1, _, _, _, _, lm, lu, em, eu, _, _, rfl, rfl, hn2', h7, hms, hus⟩⟩
    | less h1 h2 h3 h4 h5 h6 =>
      have hi : i < xs.length := (List.getElem?_eq_some_iff.mp h1).1
      have hn1' : n - 1 < n := by omega
      have hn2' : n - 1 + (i + 1) = xs.length := by omega
      have A1 : At1 xs (i : Int) _ := ⟨i, rfl, h1⟩
      have A2 : At1 ys (j : Int) _ := ⟨j, rfl, h2⟩
      have A3 : At1 xs ((i : Int) + 1) _ := ⟨i + 1, by omega, h4⟩
      clear h1 h2 h4
      k_steps
      refine Hold.mk ?_
      have hlm : lm.length ≤ 1000 := by
        have e := congrArg List.length hms
        simp only [List.length_append, List.length_map, List.length_cons] at e
        omega
      refine append_S (rest := (U, W.listOf (strValues lu).toArray eu) :: (news ++ [(L, oL)])) (by k_asm) (re2 (by k_asm)) (hMr oL _) hlm ?_
      intro h' F' N'
      replace N' := re2 N'
      (try dsimp only)
      k_steps
      with_reducible rename Fr _ _ _ _ => FZ
      with_reducible rename News _ _ _ _ => NZ
      exact ⟨_, _, _, _, rfl, fr_eq FZ sld_less, NZ, .inl ⟨rfl, n - 1, hn1', i + 1, j, _, _, _, _, lm ++ [_], lu, _, eu, _, _, rfl, rfl, hn2', h6, by rw [← hms, List.map_append]; simp, hus⟩⟩
    | last h1 h2 h3 h4 h5 =>
      have hi : i < xs.length := (List.getElem?_eq_some_iff.mp h1).1
      have A1 : At1 xs (i : Int) _ := ⟨i, rfl, h1⟩
      have A2 : At1 ys (j : Int) _ := ⟨j, rfl, h2⟩
      have A3 : At1 xs ((i : Int) + 1) _ := ⟨i + 1, by omega, h3⟩
      have A4 : At1 ys ((j : Int) + 1) _ := ⟨j + 1, by omega, h4⟩
      clear h1 h2 h3 h4
      k_steps
      with_reducible rename Heap.NewExc _ _ _ _ => hx9
      with_reducible rename Fr _ _ _ _ => FZ
      with_reducible rename News _ _ _ _ => NZ
      show wpAny (model prog w) _ (noteFrame _ _) _ _ _
      refine note_fresh (new := (U, W.listOf (strValues lu).toArray eu) :: (M, W.listOf (strValues lm).toArray em) :: news) rfl tiF (newExc_C hx9) FZ NZ (hnL _ _) ?_
      intro h1 sl tb oe otb tiF1 F1 N1 H1 hap
      clear hx9 FZ NZ
      refine x_came F1 N1 H1 hap ?_
      clear F1 N1 H1
      intro h2 otb2 F2 N2 H2
      show wpAny (model prog w) _ (noteFrame _ _) _ _ _
      refine x_again N2 H2 ?_
      refine ⟨ref_ne_byPass _, x_again N2 H2 (x_flight (fr := none) F2 N2 H2 hap ?_)⟩
      clear F2 N2 H2
      intro h3 otb3 F3 N3 H3
      replace N3 : News _ _ _ (_ :: _ :: (U, W.listOf (strValues lu).toArray eu) :: (M, W.listOf (strValues lm).toArray em) :: (news ++ [(L, { oL with slots := sl })])) := N3
      k_steps
      refine Hold.mk ?_
      with_reducible rename Fr _ _ _ _ => FZ
      with_reducible rename News _ _ _ _ => NZ
      refine x_pass FZ NZ H3 hap ?_
      clear FZ NZ H3
      intro h4 otb4 F4 N4 H4
      show wpAny (model prog w) _ (noteFrame _ _) _ _ _
      refine x_again N4 H4 (x_flight (fr := none) F4 N4 H4 hap ?_)
      clear F4 N4 H4
      intro h5 otb5 F5 N5 H5
      refine TT.clause_hitTN (x_pack F5 N5 H5 hap) (by k_asm) (k := ?_) (hv := by boot_by_name)
      clear F5 N5 H5 hap
      intro h6 F6 N6
      (try dsimp only)
      k_steps
      refine Hold.mk ?_
      refine slice_tail (n := i + 1) (by k_asm) (by k_asm) (.tail _ (.tail _ (List.mem_append_left _ hm1))) hll1 rfl (by kmk_part) (by kmk_part) ?_ (by with_unfolding_all rfl) (by kmk_pure)
      intro D7 h7 F7 N7 lt7
      (try dsimp only)
      k_steps
      refine Hold.mk ?_
      have hlm : lm.length ≤ 1000 := by
        have e := congrArg List.length hms
        simp only [List.length_append, List.length_map] at e
        omega
      have hlu : lu.length ≤ 1000 := by
        have e := congrArg List.length hus
        simp only [List.length_append, List.length_map] at e
        omega
      refine ext_S (by k_asm) (re3 (re3 (by k_asm))) (List.forall_mem_cons.mpr ⟨Ne.symm (Nat.ne_of_lt (lt7 (M, _) (.tail _ (.head _)))), hMr _ _⟩) (.head _) hlm (by rw [List.length_drop]; omega) ?_
      intro h8 ep8 F8 N8
      (try dsimp only)
      k_steps
      refine Hold.mk ?_
      refine slice_tail (n := j + 1) (by k_asm) (by k_asm) (.tail _ (.tail _ (.tail _ (List.mem_append_left _ hm2)))) hll2 rfl (by kmk_part) (by kmk_part) ?_ (by with_unfolding_all rfl) (by kmk_pure)
      intro D9 h9 F9 N9 lt9
      (try dsimp only)
      k_steps
      refine Hold.mk ?_
      refine ext_S (by k_asm) (re4 (by k_asm)) (List.forall_mem_cons.mpr ⟨Ne.symm (Nat.ne_of_lt (lt9 (U, _) (.tail _ (.tail _ (.head _))))), List.forall_mem_cons.mpr ⟨hMU, List.forall_mem_cons.mpr ⟨Ne.symm (Nat.ne_of_lt (lt7 (U, _) (.head _))), hUr _⟩⟩⟩) (.head _) hlu (by rw [List.length_drop]; omega) ?_
      intro h10 ep10 F10 N10
      (try dsimp only)
      k_steps
      with_reducible rename Fr _ _ _ _ => FZ
      with_reducible rename News _ _ _ _ => NZ
      exact ⟨_, _, _, _, rfl, fr_eq FZ sld_same, re_end NZ, .inr ⟨rfl, _, _, _, _, lm ++ l1.drop (i + 1), lu ++ l2.drop (j + 1), _, _, _, rfl, rfl, by rw [List.map_append, List.map_drop, hl1]; exact hms, by rw [List.map_append, List.map_drop, hl2]; exact hus⟩⟩
    | both h1 h2 h3 h4 =>
      have hi : i < xs.length := (List.getElem?_eq_some_iff.mp h1).1
      have A1 : At1 xs (i : Int) _ := ⟨i, rfl, h1⟩
      have A2 : At1 ys (j : Int) _ := ⟨j, rfl, h2⟩
      have A3 : At1 xs ((i : Int) + 1) _ := ⟨i + 1, by omega, h3⟩
      have hj : j < ys.length := (List.getElem?_eq_some_iff.mp h2).1
      clear h1 h2 h3
      k_steps
      with_reducible rename Heap.NewExc _ _ _ _ => hx9
      with_reducible rename Fr _ _ _ _ => FZ
      with_reducible rename News _ _ _ _ => NZ
      show wpAny (model prog w) _ (noteFrame _ _) _ _ _
      refine note_fresh (new := (U, W.listOf (strValues lu).toArray eu) :: (M, W.listOf (strValues lm).toArray em) :: news) rfl tiF (newExc_C hx9) FZ NZ (hnL _ _) ?_
      intro h1 sl tb oe otb tiF1 F1 N1 H1 hap
      clear hx9 FZ NZ
      refine x_came F1 N1 H1 hap ?_
      clear F1 N1 H1
      intro h2 otb2 F2 N2 H2
      show wpAny (model prog w) _ (noteFrame _ _) _ _ _
      refine x_again N2 H2 ?_
      refine ⟨ref_ne_byPass _, x_again N2 H2 (x_flight (fr := none) F2 N2 H2 hap ?_)⟩
      clear F2 N2 H2
      intro h3 otb3 F3 N3 H3
      replace N3 : News _ _ _ (_ :: _ :: (U, W.listOf (strValues lu).toArray eu) :: (M, W.listOf (strValues lm).toArray em) :: (news ++ [(L, { oL with slots := sl })])) := N3
      k_steps
      refine Hold.mk ?_
      with_reducible rename Fr _ _ _ _ => FZ
      with_reducible rename News _ _ _ _ => NZ
      have hapL := hap (L, { oL with slots := sl }) (List.mem_append_right _ (.head _))
      refine idx_held (n := j + 1) rfl NZ (.head _) H3 (.tail _ (.tail _ (.tail _ (.tail _ (List.mem_append_left _ hm2))))) hl2 rfl h4 (by omega) ?_ (by with_unfolding_all rfl)
      intro h7 tk7 e2 hx2
      show wpAny (model prog w) _ (noteFrame _ _) _ _ _
      refine note_fresh (new := (_, oe) :: (tb, otb3) :: (U, W.listOf (strValues lu).toArray eu) :: (M, W.listOf (strValues lm).toArray em) :: news) rfl tiF1 hx2 FZ NZ (List.forall_mem_cons.mpr ⟨Ne.symm hapL.2, List.forall_mem_cons.mpr ⟨Ne.symm hapL.1, hnL _ _⟩⟩) ?_
      intro h8 sl2 tb2 oe2 otb8 tiF2 F8 N8 H8 hap8
      clear hx2 FZ NZ H3 hap hapL
      refine x_came F8 N8 H8 hap8 ?_
      clear F8 N8 H8
      intro h9 otb9 F9 N9 H9
      show wpAny (model prog w) _ (noteFrame _ _) _ _ _
      refine x_again N9 H9 ?_
      refine x_came F9 N9 H9 hap8 ?_
      clear F9 N9 H9
      intro h10 otb10 F10 N10 H10
      show wpAny (model prog w) _ (noteFrame _ _) _ _ _
      refine x_again N10 H10 (x_flight (fr := none) F10 N10 H10 hap8 ?_)
      clear F10 N10 H10
      intro h5 otb5 F5 N5 H5
      refine TT.clause_hitTN (x_pack F5 N5 H5 hap8) (by k_asm) (k := ?_) (hv := by boot_by_name)
      clear F5 N5 H5 hap8
      intro h6 F6 N6
      replace N6 : News _ _ _ ((U, W.listOf (strValues lu).toArray eu) :: (M, W.listOf (strValues lm).toArray em) :: (news ++ [(L, { oL with slots := sl2 })])) := fun p hp => N6 p (.tail _ (.tail _ hp))
      (try dsimp only)
      k_steps
      refine Hold.mk ?_
      refine slice_tail (n := i + 1) (by k_asm) (by k_asm) (.tail _ (.tail _ (List.mem_append_left _ hm1))) hll1 rfl (by kmk_part) (by kmk_part) ?_ (by with_unfolding_all rfl) (by kmk_pure)
      intro D7 h7 F7 N7 lt7
      (try dsimp only)
      k_steps
      refine Hold.mk ?_
      have hlm : lm.length ≤ 1000 := by
        have e := congrArg List.length hms
        simp only [List.length_append, List.length_map] at e
        omega
      have hlu : lu.length ≤ 1000 := by
        have e := congrArg List.length hus
        simp only [List.length_append, List.length_map] at e
        omega
      refine ext_S (by k_asm) (re3 (re3 (by k_asm))) (List.forall_mem_cons.mpr ⟨Ne.symm (Nat.ne_of_lt (lt7 (M, _) (.tail _ (.head _)))), hMr _ _⟩) (.head _) hlm (by rw [List.length_drop]; omega) ?_
      intro h8 ep8 F8 N8
      (try dsimp only)
      k_steps
      refine Hold.mk ?_
      refine slice_tail (n := j + 1) (by k_asm) (by k_asm) (.tail _ (.tail _ (.tail _ (List.mem_append_left _ hm2)))) hll2 rfl (by kmk_part) (by kmk_part) ?_ (by with_unfolding_all rfl) (by kmk_pure)
      intro D9 h9 F9 N9 lt9
      (try dsimp only)
      k_steps
      refine Hold.mk ?_
      refine ext_S (by k_asm) (re4 (by k_asm)) (List.forall_mem_cons.mpr ⟨Ne.symm (Nat.ne_of_lt (lt9 (U, _) (.tail _ (.tail _ (.head _))))), List.forall_mem_cons.mpr ⟨hMU, List.forall_mem_cons.mpr ⟨Ne.symm (Nat.ne_of_lt (lt7 (U, _) (.head _))), hUr _⟩⟩⟩) (.head _) hlu (by rw [List.length_drop]; omega) ?_
      intro h10 ep10 F10 N10
      (try dsimp only)
      k_steps
      with_reducible rename Fr _ _ _ _ => FZ
      with_reducible rename News _ _ _ _ => NZ
      exact ⟨_, _, _, _, rfl, fr_eq FZ sld_same, re_end NZ, .inr ⟨rfl, _, _, _, _, lm ++ l1.drop (i + 1), lu ++ l2.drop (j + 1), _, _, _, rfl, rfl, by rw [List.map_append, List.map_drop, hl1]; exact hms, by rw [List.map_append, List.map_drop, hl2]; exact hus⟩⟩
  · rintro m' nw h tk' ⟨i, j, ve, va, lm, lu, em, eu, sl, rfl, rfl, hlm, hlu⟩ F3 N3
    (try dsimp only)
    clear F2 N1 hs
    k_steps
    refine Hold.mk ?_
    with_reducible rename Fr _ _ _ _ => FZ
    with_reducible rename News _ _ _ _ => NZ
    rename_i D' h' l1
    refine TLg.leave_back (new := (D', _) :: (U, _) :: (M, _) :: news) tiC FZ NZ ⟨Ne.symm (Nat.ne_of_lt (Nat.lt_trans hLM l1.2.1)), Ne.symm (Nat.ne_of_lt (Nat.lt_trans hLM lU.1)), Ne.symm (Nat.ne_of_lt hLM), TLgL.allNe_of tiE⟩ ?_
    intro F' N'
    exact hret _ _ _ _ _ _ _ _ _ hlm hlu F' N'
end Mine
end
-- L
section
open PySem PySem.W PyProof.Rows
namespace Mine
theorem fresh_UnL : True := by (w_top off; k_with_none; trivial)
theorem fillU8 : (fun (_ : OpenLaw) (_ : Params → Frag) => True) PySem.Challenge.rw_un0006_01 hd.heap_39 := by (k_fill; trivial)
local macro_rules | `(tactic| walk_at "eval ListComp") => `(tactic| (k_here; (with_reducible show wpAny _ _ (eval (Expr.ListComp (Expr.Subscript (Expr.Call _ _ _ _) _ _) _ _ _) _) _ _ _); k_dflt (refine ListComp_H (F₀ := by k_asm) (by with_unfolding_all rfl) (by decide) (by rfl) (by decide) (by rfl) ?_)))
local macro_rules | `(tactic| walk_at "call ref") => `(tactic| (k_here; (first
  | (with_reducible show wpAny _ _ (call (Value.ref 55) _) _ _ _)
  | (with_reducible show wpAny _ _ (call (Value.ref 109) _) _ _ _)
  | (with_reducible show wpAny _ _ (call (Value.ref 114) _) _ _ _)
  | (with_reducible show wpAny _ _ (call (Value.ref 119) _) _ _ _)
  | (with_reducible show wpAny _ _ (call (Value.ref 124) _) _ _ _)
  | (with_reducible show wpAny _ _ (call (Value.ref 131) _) _ _ _)); k_dflt (refine Hold.out ?_)))
local macro_rules | `(tactic| walk_at "call ref") => `(tactic| (k_here; (with_reducible show wpAny _ _ (call (Value.ref 102) [Value.int _ _]) _ _ _); k_dflt (refine' filemode_callX ?k1 ?k2 ?k3 ?k4 ?k5 ?k6 ?k7 ?k8 ?_; (case k1 => k_asm); (case k2 => k_asm); (case k3 => k_asm); (case k4 => k_asm); (case k5 => k_asm); (case k6 => first | rfl | assumption); (case k7 => ktr_room); (case k8 => ktr_units); k_whole); intro x' t' h' k' e' l' F' N'; (try dsimp only)))
local macro_rules | `(tactic| walk_at "subscriptTail Name Slice ref ref") => `(tactic| (k_here; (with_reducible show wpAny _ _ (subscriptTail _ (PySem.Expr.Slice (some _) (some _) none _) (Value.ref _) (Value.ref _)) _ _ _); k_dflt (refine Hold.out ?_)))
local macro_rules | `(tactic| walk_at "subscriptTail Name Slice ref ref") => `(tactic| (k_here; (with_reducible show wpAny _ _ (subscriptTail _ (PySem.Expr.Slice (some _) none none _) (Value.ref _) (Value.ref _)) _ _ _); k_dflt (refine' kmk_slice_ints ?F ?N ?l ?p ?q ?i ?m ?c ?_ ?s ?t ?z; (case F => k_asm); (case N => k_asm); (case l => kmk_list); (case p => kmk_part); (case q => kmk_part); (case i => l_ints); (case m => exact kmk_from (by l_ints) (by kmk_sign)); (case c => kmk_len); (case s => with_unfolding_all rfl); (case t => kmk_pure); (case z => kmk_size)); intro D' ws' h' F' N' l1 hI' hC' hL'; (try simp only [Int.reduceNeg, Int.neg_neg, Int.reduceToNat] at hI' hC' hL'); (try k_lt l1); (try k_sweep)))
local macro_rules | `(tactic| walk_at "subscriptTail Name Slice ref ref") => `(tactic| (k_here; (with_reducible show wpAny _ _ (subscriptTail _ (PySem.Expr.Slice none (some _) none _) (Value.ref _) (Value.ref _)) _ _ _); k_dflt (refine' kmk_slice_ints ?F ?N ?l ?p ?q ?i ?m ?c ?_ ?s ?t ?z; (case F => k_asm); (case N => k_asm); (case l => kmk_list); (case p => kmk_part); (case q => kmk_part); (case i => l_ints); (case m => exact kmk_upto (by l_ints) (by kmk_sign)); (case c => kmk_len); (case s => with_unfolding_all rfl); (case t => kmk_pure); (case z => kmk_size)); intro D' ws' h' F' N' l1 hI' hC' hL'; (try simp only [Int.reduceNeg, Int.neg_neg, Int.reduceToNat] at hI' hC' hL'); (try k_lt l1); (try k_sweep)))
local macro_rules | `(tactic| walk_at "subscriptTail Name Slice ref ref") => `(tactic| (k_here; (with_reducible show wpAny _ _ (subscriptTail _ (PySem.Expr.Slice (some _) (some _) none _) (Value.ref _) (Value.ref _)) _ _ _); k_dflt (refine' kmk_slice_ints ?F ?N ?l ?p ?q ?i ?m ?c ?_ ?s ?t ?z; (case F => k_asm); (case N => k_asm); (case l => kmk_list); (case p => kmk_part); (case q => kmk_part); (case i => l_ints); (case m => exact kmk_run (by l_ints) (by kmk_sign) (by kmk_sign)); (case c => kmk_len); (case s => with_unfolding_all rfl); (case t => kmk_pure); (case z => kmk_size)); intro D' ws' h' F' N' l1 hI' hC' hL'; (try simp only [Int.reduceNeg, Int.neg_neg, Int.reduceToNat] at hI' hC' hL'); (try k_lt l1); (try k_sweep)))
local macro_rules | `(tactic| walk_at "subscriptTail") => `(tactic| (k_here; (with_reducible show wpAny _ _ (subscriptTail _ (PySem.Expr.Slice _ _ _ _) (Value.ref _) (Value.ref _)) _ _ _); (fail_if_success (with_reducible show wpAny _ _ (subscriptTail (PySem.Expr.Name _ _) _ _ _) _ _ _)); k_dflt (refine kba_turn (value' := PySem.Expr.Name (PySem.Str.ofString "_") ⟨0, 0, 0, 0⟩) (fun _ => rfl) ?_)))
local macro_rules | `(tactic| walk_at "compareOp NotEq ref ref") => `(tactic| (k_here; k_dflt (refine Hold.out ?_)))
local macro_rules | `(tactic| walk_at "compareOp Eq ref ref") => `(tactic| (k_here; k_dflt (refine Hold.out ?_)))
local macro_rules | `(tactic| walk_at "call builtin:sorted") => `(tactic| (k_here; k_dflt (refine Hold.out ?_)))
local macro_rules | `(tactic| walk_at "call builtin:str.split") => `(tactic| (k_here; k_dflt (refine Hold.out ?_)))
local macro_rules | `(tactic| walk_at "call builtin:str.join") => `(tactic| (k_here; k_dflt (refine Hold.out ?_)))
local macro_rules | `(tactic| walk_at "call type:list") => `(tactic| (k_here; (with_reducible show wpAny _ _ (call (Value.type _) [Value.ref _]) _ _ _); k_dflt ((rename IsRange _ _ _ _ _ _ _ _ => rgX); (refine' kll_range (n := 10) ?k0 ?k1 ?k2 ?k3 ?k4 ?k5 ?k6 ?_; (case k0 => rfl); (case k1 => k_asm); (case k2 => k_asm); (case k3 => exact rgX); (case k4 => decide); (case k5 => rfl); (case k6 => decide); k_whole)); intro D' vs' c' h' tk' F' N' l1 hI'; (try k_lt l1)))
def LawEnd (s1 : Shared) (fl : Flow) (s' : Shared) : Prop := fl = .ret (.bool true) ∧ ∃ (h' : Heap) (tk' : Nat), s' = { s1 with heap := h', toks := tk' } ∧ ∃ m nw, Fr s1.heap s1.heap.objs.size h' m ∧ News s1.heap s1.heap.objs.size h' nw
theorem ne_self {x : Str} {P : Prop} (h : (x != x) = true) : P := by simp at h
local macro_rules | `(tactic| walk_at "eval ListComp") => `(tactic| (k_here; (with_reducible show wpAny _ _ (eval (Expr.ListComp _ (⟨Expr.Tuple _ _ _, _, _, _⟩ :: _) _ _) _) _ _ _); k_dflt (refine Hold.out ?_)))
local macro_rules | `(tactic| walk_at "call type:zip") => `(tactic| (k_here; (with_reducible show wpAny _ _ (call (Value.type _) [Value.ref _, Value.ref _]) _ _ _); k_dflt (refine Hold.out ?_)))
local macro_rules | `(tactic| walk_at "subscriptTail Name UnaryOp ref int") => `(tactic| (k_here; (with_reducible show wpAny _ _ (subscriptTail _ _ (Value.ref _) (Value.int _ _)) _ _ _); k_dflt (refine Hold.out ?_)))
local macro_rules | `(tactic| walk_at "subscriptTail") => `(tactic| (k_here; (with_reducible show wpAny _ _ (subscriptTail _ (PySem.Expr.UnaryOp _ _ _) (Value.ref _) (Value.int _ _)) _ _ _); k_dflt (refine Hold.out ?_)))
theorem intVals_of : ∀ {ys : List Value} {bs : List Int}, IntsAre ys bs → ∃ l : List (Int × Tok), ys = intVals l ∧ l.map (·.1) = bs
  | _, _, .nil => ⟨[], rfl, rfl⟩
  | _, _, .cons n t h => by
    obtain ⟨l, e, hm⟩ := intVals_of h
    subst e
    exact ⟨(n, t) :: l, rfl, by simp [hm]⟩
theorem signs_callX {prog : Program} {w : World} {mean : ExcName → Option Value} {mg mb : Str → Option Value} {dp un : Nat} {gd : Option (List Code)} {cn : Str} {cs : Scope} {a : Addr} {ccd : Value} {cl : List (Str × Addr)} {outer : List Env} {A₀ : Around} {base h₀ : Heap} {L : Addr} {m : Str → Option Value} {news : List (Addr × Obj)} {s : Shared} {Q E : Value → Shared → Prop} {P : Addr} {k : Nat} {ys : List Value} {bs : List Int} {sg : Str}
    (B : Below A₀ base outer h₀) (F : Fr h₀ L s.heap m) (X : (hd.heap_39 w.params).In h₀) (N : News h₀ L s.heap news) (T : TopU mean mg mb h₀) (hk : cs.kind = .function) (hd : dp + 1 < recursionLimit) (hu : un + 8 < cLine)
    (hm : (P, ({ cls := .type "list", data := .seq ys.toArray k } : Obj)) ∈ news) (hI : IntsAre ys bs) (hl : bs.length ≤ 3) (hb : ∀ b ∈ bs, 0 ≤ b ∧ b < 512) (hs : signsT bs = sg)
    (hret : ∀ (t' : Tok) (h' : Heap) (tk' : Nat), Fr h₀ L h' m → News h₀ L h' news → Q (.str sg t') { s with heap := h', toks := tk' }) :
    wpAny (model prog w) (ktrTop dp un gd cn cs L a ccd cl outer) (call (.ref 124) [.ref P]) Q E s := by
  obtain ⟨l, rfl, hl'⟩ := intVals_of hI
  subst hl'
  subst hs
  exact signs_call B F X N T hk hd hu hm (by simpa using hl) (fun p hp => hb _ (List.mem_map.mpr ⟨p, hp, rfl⟩)) hret
theorem modes_len (w : List Int) : (List.map (fun a => a.fmod 512) (List.filter (fun a' => true) (List.take 3 w ++ List.drop (↑w.length : Int).toNat [1, 4, 5]))).length = 3 := by
  have e : (List.filter (fun _ : Int => true) (List.take 3 w ++ List.drop (↑w.length : Int).toNat [1, 4, 5])) = List.take 3 w ++ List.drop (↑w.length : Int).toNat [1, 4, 5] := List.filter_eq_self.mpr fun _ _ => rfl
  rw [e, List.length_map, List.length_append, List.length_take, List.length_drop, Int.toNat_natCast]
  show min 3 w.length + (3 - w.length) = 3
  omega
theorem turnB_in (k : Int) : 0 ≤ turnBN k ∧ turnBN k < 512 := by
  have h1 := Int.fmod_nonneg_of_pos k (b := 2) (by omega)
  have h2 := Int.fmod_lt_of_pos k (b := 2) (by omega)
  have h3 := Int.fmod_nonneg_of_pos (k.fdiv 2) (b := 2) (by omega)
  have h4 := Int.fmod_lt_of_pos (k.fdiv 2) (b := 2) (by omega)
  have h5 := Int.fmod_nonneg_of_pos (k.fdiv 4) (b := 2) (by omega)
  have h6 := Int.fmod_lt_of_pos (k.fdiv 4) (b := 2) (by omega)
  unfold turnBN
  omega
theorem rows_callI {prog : Program} {w : World} {mean : ExcName → Option Value} {mg mb : Str → Option Value} {dp un : Nat} {gd : Option (List Code)} {cn : Str} {cs : Scope} {a : Addr} {ccd : Value} {cl : List (Str × Addr)} {outer : List Env} {A₀ : Around} {base h₀ : Heap} {L : Addr} {m : Str → Option Value} {news : List (Addr × Obj)} {s : Shared} {Q E : Value → Shared → Prop} {lost rest : Nat} {x y : Int} {t u : Tok}
    (B : Below A₀ base outer h₀) (F : Fr h₀ L s.heap m) (X : (hd.heap_39 w.params).In h₀) (N : News h₀ L s.heap news) (T : TopU mean mg mb h₀) (hk : cs.kind = .function) (hd : dp + 1 < recursionLimit) (hu : un + 8 < cLine) (hx : x = (lost : Int)) (hy : y = (rest : Int)) (hl9 : lost ≤ 9) (hr9 : rest ≤ 9)
    (hret : ∀ D (l : List (Str × Tok)) (h' : Heap) (tk' : Nat), l.map (·.1) = rowsT lost rest → Fr h₀ L h' m → News h₀ L h' ((D, LCg.lst (strValues l)) :: news) → Q (.ref D) { s with heap := h', toks := tk' }) :
    wpAny (model prog w) (ktrTop dp un gd cn cs L a ccd cl outer) (call (.ref 114) [.int x t, .int y u]) Q E s := by
  subst hx hy
  exact rows_call B F X N T hk hd hu hl9 hr9 hret
theorem ints_ge {w : List Int} : ∀ b ∈ w.map (fun a => a.fmod 512), 0 ≤ b ∧ b < 512 := by
  intro b hb
  obtain ⟨a, _, rfl⟩ := List.mem_map.mp hb
  exact ⟨Int.fmod_nonneg_of_pos _ (by omega), Int.fmod_lt_of_pos _ (by omega)⟩
theorem split_eq {z : Str} {l : Nat} {ts : List Str} (hz : z = mailT l l) (hl : l ≤ 18) (h : ts = Txt.split z (Str.ofString "\r\n")) : ts = rowsT l l := by
  subst hz
  exact h.trans (split_rows hl)
theorem ends_len (w : List Int) : (List.take (min 13 w.length - 3) (List.drop 3 w) ++ List.drop (↑(List.take (min 13 w.length - 3) (List.drop 3 w)).length : Int).toNat (rangeKs 0 10)).length = 10 := by
  rw [List.length_append, List.length_drop, Int.toNat_natCast, List.length_take, List.length_drop]
  have : (rangeKs 0 10).length = 10 := by decide
  omega
theorem law_holds : PySem.Challenge.rw_un0006_01.Holds := hd (by
  k_go0
  all_goals try k_fold
  rename_i w s0 s1 mg mb G Y fa o pm doc kV ho hg KX XM V GL T TB TE TW wA wO M wB wC hcd wL hs hlay0 hLn hr hl2 wL1 wL2 wP wQ wR hL ra w1 r0 hI hr2 hc1 hc2 K0 hD h1 F N0
  refine wpAny_mono (Q := LawEnd s1) (E := fun _ _ => False) ?_ ?_ ?_
  rotate_left
  · rintro fl s' ⟨rfl, h', tk', rfl, m', nw', F', N'⟩
    (try dsimp only)
    k_steps
  · intro _ _ h
    exact h.elim
  have hlen : wL.length ≤ 63 := by omega
  clear hcd hD hr2 w1 r0 ra hr hl2 hLn hlay0 hs ho hg G Y V GL TE TW M XM TB hc1 hc2
  k_steps
  refine Hold.mk ?_
  with_reducible rename IntsAre _ (List.map _ _) => hI2
  refine compIntStrs sgn rfl (by k_asm) (by k_asm) (by k_mem) hI2 (by rw [hI2.length, modes_len wL]; decide) ?_ ?_
  · intro n t I oI C oC D m₂ zs h tk E' hn hC hx F' N'
    have hn' := ints_ge n hn
    k_steps
    exact tend_of (FmEq.sgn (by assumption)) (by k_asm) (by k_asm)
  intro l' D h tk hl' F' N'
  (try dsimp only)
  k_steps
  refine Hold.mk ?_
  have hb := ints_ge (w := List.filter (fun a' => true) (List.take 3 wL ++ List.drop (↑wL.length : Int).toNat [1, 4, 5]))
  have hbl3' := modes_len wL
  generalize hbs : List.map (fun a => a.fmod 512) (List.filter (fun a' => true) (List.take 3 wL ++ List.drop (↑wL.length : Int).toNat [1, 4, 5])) = bs at *
  have hbl : bs.length ≤ 3 := Nat.le_of_eq hbl3'
  refine join_K (by k_asm) (by k_asm) (by k_mem) hl' (sgn_joinOk hbl) ?_
  intro t' k' F2 N2
  rw [join_none, sgn_join hb]
  generalize hsg : signsT bs = sg
  (try dsimp only)
  clear hl' F' N'
  k_steps
  refine Hold.mk ?_
  with_reducible rename IntsAre _ (List.map _ _) => hI3
  have hb3 : ∀ b ∈ bs.reverse.map turnBN, 0 ≤ b ∧ b < 512 := fun b hb => by
    obtain ⟨c, _, rfl⟩ := List.mem_map.mp hb
    exact turnB_in c
  have hbl3 : (bs.reverse.map turnBN).length ≤ 3 := by simpa using hbl
  have hI4 : IntsAre _ (bs.reverse.map turnBN) := hI3
  clear hI3
  generalize hts : bs.reverse.map turnBN = ts at hI4 hb3 hbl3
  refine compIntStrs sgn rfl (by k_asm) (by k_asm) (by k_mem) hI4 (by rw [hI4.length]; exact Nat.le_trans hbl3 (by decide)) ?_ ?_
  · intro n t I oI C oC D m₂ zs h tk E' hn hC hx F' N'
    have hn' := hb3 n hn
    k_steps
    exact tend_of (FmEq.sgn (by assumption)) (by k_asm) (by k_asm)
  intro l' D h tk hl' F' N'
  (try dsimp only)
  k_steps
  refine Hold.mk ?_
  refine join_K (by k_asm) (by k_asm) (by k_mem) hl' (sgn_joinOk hbl3) ?_
  intro t' k' F2 N2
  rw [join_none, sgn_join hb3]
  generalize hbk : signsT ts = bk
  (try dsimp only)
  clear hl' F' N'
  k_steps
  refine Hold.mk ?_
  refine signs_callX (bs := bs) (by k_asm) (by k_asm) (by k_asm) (by k_asm) (by k_asm) (by first | rfl | assumption) (by ktr_room) (by ktr_units) (by k_mem) hI2 hbl hb hsg ?_
  intro t' h' k' F' N'
  (try dsimp only)
  k_steps
  · exact ne_self (by assumption)
  refine Hold.mk ?_
  refine signs_callX (bs := ts) (by k_asm) (by k_asm) (by k_asm) (by k_asm) (by k_asm) (by first | rfl | assumption) (by ktr_room) (by ktr_units) (by k_mem) hI4 hbl3 hb3 hbk ?_
  intro t' h' k' F' N'
  (try dsimp only)
  k_steps
  · exact ne_self (by assumption)
  refine Hold.mk ?_
  refine rows_callI (lost := 0) (rest := 0) (by k_asm) (by k_asm) (by k_asm) (by k_asm) (by k_asm) (by first | rfl | assumption) (by ktr_room) (by ktr_units) rfl rfl (by decide) (by decide) ?_
  intro DR lr h' tk' hlr F' N'
  (try dsimp only)
  k_steps
  refine Hold.mk ?_
  with_reducible rename IntsAre _ (_ ++ _) => hIE
  with_reducible rename News _ _ _ _ => NE
  with_reducible rename Fr _ _ _ _ => FE
  refine ListComp_zip (f := rowEnd) (xs := strValues lr) (l1 := DR) rfl (by decide) (zip_count hlr) (by with_unfolding_all rfl) (by decide) (by rfl) (by decide) (by rfl) (by rfl) (by intro _; rfl) FE NE hIE (by k_mem) (by k_mem) (wpAny_mono (Q := ZEnd _ _ _ _ _ _ _) ?zi (fun _ _ h => h) fun _ _ h => h) ?zt ?zf
  case zi =>
    k_steps
    refine Hold.mk ?_
    refine zip_K (xs := strValues lr) (by k_asm) NE (by k_mem) (by k_mem) fun z' h' hz' F' N' => ?_
    exact zend_of hz' F' N'
  case zt =>
    intro z TI TO i1 i2 v₁ v₂ oz oTI oTO o1 o2 C oC D m₂ zs h tk E' hv hC hx hy F' N'
    obtain ⟨⟨r, t1, rfl, hr⟩, n, t2, rfl⟩ := zip_item hlr hIE hv
    clear hv
    k_steps
    · exact tend_of (eol0 (by assumption)) (by k_asm) (cb_drop (by k_asm) fun p hp => .tail _ hp)
    · exact tend_of (eol1 (by assumption)) (by k_asm) (cb_drop (by k_asm) fun p hp => .tail _ hp)
    · exact tend_of (eol2 (by assumption)) (by k_asm) (cb_drop (by k_asm) fun p hp => .tail _ hp)
  case zf =>
    intro D h tk l' hl' F' N'
    (try dsimp only)
    k_steps
    refine Hold.mk ?_
    rw [zip_texts hIE, hlr] at hl'
    refine join_K (by k_asm) (by k_asm) (by k_mem) hl' (mixed_joinOk _) ?_
    intro t' k' F2 N2
    rw [join_none]
    have hEl := ends_len wL
    generalize hmx : Str.join ⟨#[]⟩ (List.zipWith rowEndT (rowsT 0 0) _) = mx
    clear hl' F' N'
    k_steps
    refine Hold.mk ?_
    refine last_K (by k_asm) (by k_mem) hlr rfl ?_
    intro tl
    generalize hlr2 : lastR = lR
    have hmxl : mx.length ≤ 143 := by rw [← hmx]; exact mixed_len _
    have hlRl : lR.length = 11 := by rw [← hlr2]; decide +kernel
    k_steps
    refine Hold.mk ?_
    have hmll : (mx ++ lR).length ≤ 1000000 := by rw [Str.length_append]; omega
    refine fix_call (by k_asm) (by k_asm) (by k_asm) (by k_asm) (by k_asm) (by first | rfl | assumption) (by ktr_room) (by ktr_units) hmll ?_
    intro t' h' tk' F' N'
    generalize hml : fixS (mx ++ lR) = ml
    have hml' : ml = mailT 0 0 := by rw [← hml, ← hmx, ← hlr2]; exact fix_all hEl
    obtain ⟨lo, re, hlre, hsg9, hbk9, hgo1, hgo2⟩ := word_facts (bk := bk) hbl3' hb hsg (by rw [hts]; exact hbk)
    have hsgl : sg.length ≤ 1000 := by omega
    have hbkl : bk.length ≤ 1000 := by omega
    clear hml hmx hlr2 hmll hmxl hlRl hIE NE FE
    (try dsimp only)
    k_steps
    refine Hold.mk ?_
    refine pair_call (by k_asm) (by k_asm) (by k_asm) (by k_asm) (by k_asm) (by first | rfl | assumption) (by ktr_room) (by ktr_units) hsgl ?_
    intro p t1 t2 h' tk' F' N'
    have hpl : pairL (KStt.codes sg) = ((lo : Int), (re : Int)) := (pairL_go sg.cps.toList).trans (by rw [hgo1])
    rw [hpl] at N'
    (try dsimp only)
    k_steps
    refine Hold.mk ?_
    refine relayed_call (J := JJ (0, 0) sg.cps.toList) (by k_asm) (by k_asm) (by k_asm) (by k_asm) (by k_asm) (by first | rfl | assumption) (by ktr_room) (by ktr_units) hsgl (jj_ok (by have : sg.cps.toList.length = sg.length := Array.length_toList; omega)) (hml' ▸ jj_start) ?_
    intro z t' h' tk' hz F' N'
    replace hz := jj_end hz
    rw [hgo1] at hz
    replace hz : z = mailT lo re := hz
    (try dsimp only)
    k_steps
    refine Hold.mk ?_
    refine join_K (by k_asm) (by k_asm) (by k_mem) hlr (rows_joinOk (by decide)) ?_
    intro t' k' F2 N2
    rw [show Txt.join (Str.ofString "\r\n") (rowsT 0 0) = ml from hml'.symm]
    (try dsimp only)
    k_steps
    · exact ne_self (by assumption)
    refine Hold.mk ?_
    refine rows_callI (lost := lo) (rest := re) (by k_asm) (by k_asm) (by k_asm) (by k_asm) (by k_asm) (by first | rfl | assumption) (by ktr_room) (by ktr_units) rfl rfl (by omega) (by omega) ?_
    intro D2 l2 h' tk' hl2 F' N'
    (try dsimp only)
    k_steps
    refine Hold.mk ?_
    refine join_K (by k_asm) (by k_asm) (by k_mem) hl2 (rows_joinOk (by omega)) ?_
    intro t' k' F2 N2
    rw [show Txt.join (Str.ofString "\r\n") (rowsT lo re) = z from hz.symm]
    (try dsimp only)
    k_steps
    · exact ne_self (by assumption)
    refine Hold.mk ?_
    refine relayed_call (J := JJ (lo, re) bk.cps.toList) (by k_asm) (by k_asm) (by k_asm) (by k_asm) (by k_asm) (by first | rfl | assumption) (by ktr_room) (by ktr_units) hbkl (jj_ok (by have : bk.cps.toList.length = bk.length := Array.length_toList; omega)) (hz ▸ jj_start) ?_
    intro z2 t' h' tk' hz2 F' N'
    replace hz2 := jj_end hz2
    rw [hgo2] at hz2
    replace hz2 : z2 = mailT lo lo := hz2
    have hz2l : z2.length ≤ 1000000 := by rw [hz2]; exact mailT_length (by omega)
    (try dsimp only)
    k_steps
    refine Hold.mk ?_
    refine split_K (by k_asm) (by k_asm) (by decide +kernel) hz2l ?_
    intro l3 k3 h' D3 hl3 F' N'
    replace hl3 := split_eq hz2 (by omega) hl3
    (try dsimp only)
    k_steps
    refine Hold.mk ?_
    refine rows_callI (lost := lo) (rest := lo) (by k_asm) (by k_asm) (by k_asm) (by k_asm) (by k_asm) (by first | rfl | assumption) (by ktr_room) (by ktr_units) rfl rfl (by omega) (by omega) ?_
    intro D4 l4 h' tk' hl4 F' N'
    have hlo10 : lo < 10 := by omega
    (try dsimp only)
    k_steps
    refine Hold.mk ?_
    refine ne_same (by k_asm) (by k_mem) (by k_mem) hl3 hl4 (rows_ok lo hlo10) (Nat.lt_of_succ_lt (law_units _)) ?_
    clear hz hz2 hz2l hsg hbk hts hsg9 hbk9 hgo1 hgo2 hpl hsgl hbkl hI2 hI4 hbs hml' hl2
    (try dsimp only)
    k_steps
    refine Hold.mk ?_
    refine sorted_K (by k_asm) (by k_asm) (by k_mem) hlr (by rw [rowsT_len]; decide) (fun ss hp hs => srt_eq (by decide) hp hs) ?_
    intro h' D5 l5 e5 hl5 F' N'
    (try dsimp only)
    k_steps
    refine Hold.mk ?_
    refine sorted_K (by k_asm) (by k_asm) (by k_mem) hl3 (by rw [rowsT_len]; decide) (fun ss hp hs => srt_eq hlo10 hp hs) ?_
    intro h' D6 l6 e6 hl6 F' N'
    have hs5 := srt_len 0
    have hs6 := srt_len lo
    have hsd := sd_rows hlo10
    generalize hx5 : srt 0 = xs5 at hl5 hs5 hsd
    generalize hx6 : srt lo = xs6 at hl6 hs6 hsd
    generalize hx7 : missT lo = ms7 at hsd
    generalize hx8 : moreT lo = us8 at hsd
    (try dsimp only)
    k_steps
    refine Hold.mk ?_
    refine sld_law (by k_asm) (by k_asm) (by k_asm) (by k_asm) (by first | rfl | assumption) (by k_mem) (by k_mem) hl5 hl6 hs5 hs6 hsd ?_
    intro p9 M9 U9 lm9 lu9 em9 eu9 h' tk' hlm9 hlu9 F' N'
    clear hsd hl5 hl6 hs5 hs6
    (try dsimp only)
    k_steps
    refine Hold.mk ?_
    have hlr11 : lr.length = 11 := by rw [← rowsT_len 0 0, ← hlr, List.length_map]
    refine slice_rows (by k_asm) (by k_asm) (by k_mem) hlr11 hlo10 (by kmk_part) (by kmk_part) ?_ (by with_unfolding_all rfl) (by kmk_pure)
    intro D10 h' F' N' lt10
    have hl10 : ((lr.drop 1).take lo).map (·.1) = ((rowsT 0 0).drop 1).take lo := by rw [List.map_take, List.map_drop, hlr]
    generalize (lr.drop 1).take lo = l10 at N' hl10
    (try dsimp only)
    k_steps
    refine Hold.mk ?_
    refine sorted_K (by k_asm) (by k_asm) (by k_mem) hl10 (by rw [List.length_take]; omega) (fun ss hp hs => miss_eq hlo10 hp hs) ?_
    intro h' D11 l11 e11 hl11 F' N'
    clear hl10 lt10
    rw [hx7] at hl11
    (try dsimp only)
    k_steps
    refine Hold.mk ?_
    with_reducible rename CarriedAll _ (List.map PyData.str (signs _)) => hcX
    obtain ⟨l12, e12, hl12⟩ := carried_strs hcX
    clear hcX
    subst e12
    rw [letters_all lo hlo10, hx8] at hl12
    have hok7 := miss_ok lo hlo10
    have hok8 := more_ok lo hlo10
    rw [hx7] at hok7
    rw [hx8] at hok8
    refine eq_pairs (by k_asm) (by k_mem) (by k_mem) (by k_mem) (by k_mem) (by k_mem) (by k_mem) hlm9 hlu9 hl11 hl12 hok7 hok8 (law_units _) ?_
    (try dsimp only)
    k_steps
    all_goals exact ⟨rfl, _, _, rfl, _, _, by k_asm, by k_asm⟩)
end Mine
end
theorem PySem.Challenge.cw_un0006_01_holds : PySem.Challenge.rw_un0006_01.Holds := by
  exact Mine.law_holds
