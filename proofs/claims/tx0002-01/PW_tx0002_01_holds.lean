import PyProof.Rows.All
import Wide.All
import OpenK.AllK
import Wide.FinOn
import Lean
import PySem.Challenge.RW_tx0002_01
set_option Elab.async false
set_option linter.all false
set_option linter.unusedVariables false
set_option linter.unusedSimpArgs false
set_option compiler.extract_closed false
-- Our own lines of the walk stand as rows «k_with ..» at the head of the theorem that walks; «walk_at "w1"» and on are the ends of such lines that name what is new.
local macro_rules | `(tactic| omega) => `(tactic| lia)
local macro_rules | `(tactic| walk_at $s:str) => `(tactic| k_extra $s)
local macro_rules | `(tactic| walk_at "w1") => `(tactic| (intro q' h' hq' hql' F' N'; (try dsimp only at N'); (try k_sweep)))
local macro_rules | `(tactic| walk_at "w2") => `(tactic| (intro y' q' h' hq' hql' F' N'; (try dsimp only at N'); (try k_sweep)))
local macro_rules | `(tactic| walk_at "w3") => `(tactic| (intro I' oI' h' hI' F' N' l1; (try k_lt l1)))
local macro_rules | `(tactic| walk_at "w4") => `(tactic| (intro t9))
local macro_rules | `(tactic| walk_at "w5") => `(tactic| (intro t' k'))
local macro_rules | `(tactic| walk_at "w6") => `(tactic| (intro I' h' F' N' l1; (try k_lt l1)))
local macro_rules | `(tactic| walk_at "w7") => `(tactic| (intro t9 h9 tk9 F9 N9))
local macro_rules | `(tactic| walk_at "w8") => `(tactic| (intro D' us' c' h' tk' F' N' l1 i1; (try k_lt l1)))
local macro_rules | `(tactic| walk_at "w9") => `(tactic| (intro t' h' tk' F' N'; (try k_sweep)))
local macro_rules | `(tactic| walk_at "w10") => `(tactic| (intro h1' h' e' F' N' x'))
local macro_rules | `(tactic| walk_at "w11") => `(tactic| (intro h' F' N'; (try k_sweep)))
local macro_rules | `(tactic| walk_at "w12") => `(tactic| (intro h' F' N'))
local macro_rules | `(tactic| walk_at "w13") => `(tactic| (intro h' tk' t' F' N'))
local macro_rules | `(tactic| walk_at "w14") => `(tactic| (intro g'))
local macro_rules | `(tactic| walk_at "w16") => `(tactic| (intro D9 b0 b1 b2 b3 e0 e1 e2 e3 e4 e5 e6 e7 n9 h9 tk9 F9 N9 l9 g0 g1 g2 g3; (try k_lt l9)))
local macro_rules | `(tactic| walk_at "w17") => `(tactic| (intro D' t0 t1 t2 t3 t4 h' tk' F' N' l1; (try k_lt l1)))
local macro_rules | `(tactic| walk_at "w18") => `(tactic| (intro g'; lcg_lit))
local macro_rules | `(tactic| walk_at "w19") => `(tactic| (rintro x9 t9 ⟨e9, z9, b9⟩))
local macro_rules | `(tactic| walk_at "w20") => `(tactic| (intro b9 k9 e9 e9' hb9))
local macro_rules | `(tactic| walk_at "w21") => `(tactic| (intro D' h' F' N' l1; (try k_lt l1); (try k_sweep)))
local macro_rules | `(tactic| walk_at "w22") => `(tactic| (intro t9 k9))
local macro_rules | `(tactic| walk_at "w23") => `(tactic| (intro D9 H9 K9 hv9 kv9 nh9 nk9 h9 tk9 F9 N9 l9 g1 g2 hv9' kv9'; (try k_lt l9)))
local macro_rules | `(tactic| walk_at "w24") => `(tactic| (intro D' us' c' h' F' N' l1 hI'; (try k_lt l1)))
local macro_rules | `(tactic| walk_at "w25") => `(tactic| (intro l' h' F' N' l1; (try k_lt l1); (try k_sweep)))
section
open PySem PySem.W PyProof.Rows
namespace Mine
theorem nine {cm : Str → Option Value} {n₁ n₂ n₃ n₄ n₅ n₆ n₇ n₈ n₉ : Str} {c₁ c₂ c₃ c₄ c₅ c₆ c₇ c₈ c₉ : Addr} {cells : List (Addr × Obj)} (x : CellsAre cm [(n₁, c₁), (n₂, c₂), (n₃, c₃), (n₄, c₄), (n₅, c₅), (n₆, c₆), (n₇, c₇), (n₈, c₈), (n₉, c₉)] cells) :
    ∃ o₁ o₂ o₃ o₄ o₅ o₆ o₇ o₈ o₉, cells = [(c₁, o₁), (c₂, o₂), (c₃, o₃), (c₄, o₄), (c₅, o₅), (c₆, o₆), (c₇, o₇), (c₈, o₈), (c₉, o₉)] ∧ o₁.data = .cell (cm n₁) ∧ o₂.data = .cell (cm n₂) ∧ o₃.data = .cell (cm n₃) ∧ o₄.data = .cell (cm n₄) ∧ o₅.data = .cell (cm n₅) ∧ o₆.data = .cell (cm n₆) ∧ o₇.data = .cell (cm n₇) ∧ o₈.data = .cell (cm n₈) ∧ o₉.data = .cell (cm n₉) := by
  cases x with | cons h r => obtain ⟨o₂, o₃, o₄, o₅, o₆, o₇, o₈, o₉, rfl, h₂, h₃, h₄, h₅, h₆, h₇, h₈, h₉⟩ := kc_eight r; exact ⟨_, o₂, o₃, o₄, o₅, o₆, o₇, o₈, o₉, rfl, h, h₂, h₃, h₄, h₅, h₆, h₇, h₈, h₉⟩
local macro_rules | `(tactic| cells_open $x:ident) => `(tactic| (obtain ⟨_, _, _, _, _, _, _, _, _, he, _, _, _, _, _, _, _, _, _⟩ := Mine.nine $x; subst he))
set_option maxRecDepth 100000 in
set_option maxHeartbeats 8000000 in
open_top hd for PySem.Challenge.rw_tx0002_01
end Mine
end
section
open PySem
namespace Mine
open PySem.Sre

noncomputable def code1 : Array Nat := #[14,4,0,1,1,6,1,16,46,1]
noncomputable def code2 : Array Nat := #[14,9,4,1,2,16,10,16,13,0,7,7,16,13,16,10,15,18,5,16,10,15,13,11,16,13,5,5,0,16,10,1,15,2,0,1]

/-- the machine of pattern 1 about to try at s -/
noncomputable def at1 (t : Array Nat) (s : Nat) (first : Bool) (seen : Seen) : M :=
  { code := code1, text := t, lim := t.size, start := s, lastStart := t.size, mustAdvance := false, pc := 5, pos := s, handed := s, outermost := first,
    marks := #[], frames := [{ wait := .nextStart, pc := 5, pos := s, outermost := first }], weight := 1, seen := seen }

theorem runFor_stop (m : M) (h : m.outcome.isSome = true) : ∀ n, m.runFor n = m
  | 0 => rfl
  | n + 1 => by show (if m.outcome.isSome then m else _) = m; rw [if_pos h]
theorem runFor_succ (m : M) (n : Nat) : m.runFor (n + 1) = m.step.runFor n := by
  show (if m.outcome.isSome then m else M.runFor n m.step) = _
  split
  · rename_i h
    have e : m.step = m := by show (if m.outcome.isSome then m else _) = m; rw [if_pos h]
    rw [e, runFor_stop m h]
  · rfl
theorem runFor_add (m : M) (a b : Nat) : m.runFor (a + b) = (m.runFor a).runFor b := by
  induction a generalizing m with
  | zero => rw [Nat.zero_add]; rfl
  | succ a ih => rw [Nat.succ_add, runFor_succ, runFor_succ, ih]

end Mine
end
section
open PySem
namespace Mine
open PySem.Sre

theorem exec_AT (m : M) (h0 : m.word 0 = 6) (h1 : m.word 1 = 1) : m.exec =
    if (m.pos == 0 || m.text.getD (m.pos - 1) 0 == 10) = true then { m with seen := (m.seen.add 6).add 44, pc := m.pc + 2 } else ({ m with seen := (m.seen.add 6).add 44 } : M).say false := by
  unfold M.exec
  rw [h0]
  show (match M.isAt _ (M.word _ 1) with | .error why => _ | .ok yes => _) = _
  have e : M.word { m with seen := m.seen.add 6 } 1 = 1 := h1
  rw [e]
  rfl
theorem exec_LIT (m : M) (c : Nat) (h0 : m.word 0 = 16) (h1 : m.word 1 = c) : m.exec =
    if m.pos ≥ m.lim then ({ m with seen := m.seen.add 16 } : M).say false else
    if (m.text.getD m.pos 0 == c) = true then { m with seen := m.seen.add 16, pc := m.pc + 2, pos := m.pos + 1 } else ({ m with seen := m.seen.add 16 } : M).say false := by
  unfold M.exec
  rw [h0]
  have hc : m.code.getD m.pc 0 = 16 := h0
  have hc1 : m.code.getD (m.pc + 1) 0 = c := h1
  show (if m.pos ≥ m.lim then _ else (match accepts m.code m.pc (m.text.getD m.pos 0) (m.seen.add 16) with | .error why => _ | .ok (false, seen) => _ | .ok (true, seen) => _)) = _
  split
  · rfl
  · unfold accepts
    rw [hc, hc1]
    show (match (Except.ok (m.text.getD m.pos 0 == c, m.seen.add 16) : Except String (Bool × Seen)) with | .error why => _ | .ok (false, seen) => _ | .ok (true, seen) => _) = _
    cases (m.text.getD m.pos 0 == c) with
    | false => rfl
    | true =>
      show ({ m with seen := m.seen.add 16, pc := m.pc + itemWidth m.code m.pc, pos := m.pos + 1 } : M) = _
      unfold itemWidth
      rw [hc]
      rfl
theorem exec_SUCC (m : M) (h0 : m.word 0 = 1) (hw : m.wholeText = false) (hm : m.mustAdvance = false) : m.exec =
    ({ m with seen := m.seen.add 1, handed := m.pos } : M).say true := by
  unfold M.exec
  rw [h0]
  show (if (m.outermost && ((m.wholeText && m.pos != m.lim) || (m.mustAdvance && m.pos == m.start))) = true then _ else _) = _
  rw [hw, hm]
  simp
theorem step_run (m : M) (ho : m.outcome = none) (ha : m.answer = none) (hp : m.pc < m.code.size) : m.step = m.exec := by
  unfold M.step
  rw [ho, ha]
  simp [hp]
end Mine
end
section
open PySem
namespace Mine
open PySem.Sre

noncomputable def bol (t : Array Nat) (s : Nat) : Bool := s == 0 || t.getD (s - 1) 0 == 10
/-- the first place from s on where pattern 1 holds -/
noncomputable def hit1 (t : Array Nat) (s : Nat) : Bool := bol t s && t.getD s 0 == 46

theorem at1_pc (t : Array Nat) (s : Nat) (first : Bool) (seen : Seen) : (at1 t s first seen).step =
    if bol t s = true then { at1 t s first ((seen.add 6).add 44) with pc := 7 } else (at1 t s first ((seen.add 6).add 44)).say false := by
  rw [step_run _ rfl rfl (by show 5 < 10; decide), exec_AT _ rfl rfl]
  rfl
theorem resume_no1 (t : Array Nat) (s : Nat) (first : Bool) (m : M) (hf : m.frames = [{ wait := .nextStart, pc := 5, pos := s, outermost := first }]) (ho : m.outcome = none) (ha : m.answer = some false)
    (hc : m.code = code1) (ht : m.text = t) (hl : m.lim = t.size) (hls : m.lastStart = t.size) (hs : s < t.size) (hw : m.weight = 1) (hma : m.marks = #[]) (hwt : m.wholeText = false) (hlo : m.loops = #[]) (hin : m.inner = none) :
    m.step = at1 t (s + 1) false m.seen := by
  obtain ⟨code, text, lim, start, lastStart, wholeText, mustAdvance, pc, pos, handed, outermost, marks, lastmark, lastindex, loops, inner, frames, weight, answer, seen, outcome⟩ := m
  simp only at hf ho ha hc ht hl hls hw hma hwt hlo hin
  subst hf ho ha hc ht hl hls hw hma hwt hlo hin
  show (if s < text.size then M.attemptFrom _ (s + 1) false else _) = _
  rw [if_pos hs]
  rfl
theorem resume_end1 (t : Array Nat) (s : Nat) (first : Bool) (m : M) (hf : m.frames = [{ wait := .nextStart, pc := 5, pos := s, outermost := first }]) (ho : m.outcome = none) (ha : m.answer = some false)
    (hls : m.lastStart = t.size) (hs : ¬ s < t.size) : (m.runFor 2).outcome = some .failed := by
  obtain ⟨code, text, lim, start, lastStart, wholeText, mustAdvance, pc, pos, handed, outermost, marks, lastmark, lastindex, loops, inner, frames, weight, answer, seen, outcome⟩ := m
  simp only at hf ho ha hls
  subst hf ho ha hls
  rw [runFor_succ]
  have e : M.step { code := code, text := text, lim := lim, start := start, lastStart := t.size, wholeText := wholeText, mustAdvance := mustAdvance, pc := pc, pos := pos, handed := handed, outermost := outermost, marks := marks, lastmark := lastmark, lastindex := lastindex, loops := loops, inner := inner, frames := [{ wait := .nextStart, pc := 5, pos := s, outermost := first }], weight := weight, answer := some false, seen := seen, outcome := none } =
      M.say { code := code, text := text, lim := lim, start := start, lastStart := t.size, wholeText := wholeText, mustAdvance := mustAdvance, pc := 5, pos := s, handed := handed, outermost := first, marks := marks, lastmark := lastmark, lastindex := lastindex, loops := loops, inner := inner, frames := [], weight := weight - 1, answer := none, seen := seen, outcome := none } false := by
    show (if s < t.size then M.attemptFrom _ (s + 1) false else _) = _
    rw [if_neg hs]
    rfl
  rw [e]
  rfl

/-- pattern 1 from s: no place from s on -/
theorem run1_none (t : Array Nat) : ∀ (n s : Nat) (first : Bool) (seen : Seen), n = t.size + 1 - s → s ≤ t.size → (∀ p, s ≤ p → p < t.size → hit1 t p = false) →
    ∃ K, K ≤ 4 * n ∧ ((at1 t s first seen).runFor K).outcome = some .failed := by
  intro n
  induction n with
  | zero => intro s _ _ hn hs; omega
  | succ n ih =>
    intro s first seen hn hs hno
    -- either the start of a row, or not
    have fin : ∀ m : M, ∀ j, j ≤ 2 → (at1 t s first seen).runFor j = m → m.frames = [{ wait := .nextStart, pc := 5, pos := s, outermost := first }] → m.outcome = none → m.answer = some false → m.code = code1 → m.text = t → m.lim = t.size → m.lastStart = t.size → m.weight = 1 → m.marks = #[] → m.wholeText = false → m.loops = #[] → m.inner = none →
        ∃ K, K ≤ 4 * (n + 1) ∧ ((at1 t s first seen).runFor K).outcome = some .failed := by
      intro m j hj hm hf ho ha hc ht hl hls hw hma hwt hlo hin
      by_cases hlt : s < t.size
      · obtain ⟨K, hK, e⟩ := ih (s + 1) false m.seen (by omega) (by omega) (fun p h1 h2 => hno p (by omega) h2)
        refine ⟨j + (1 + K), by omega, ?_⟩
        rw [runFor_add, hm, Nat.add_comm 1 K, runFor_succ, resume_no1 t s first m hf ho ha hc ht hl hls hlt hw hma hwt hlo hin]
        exact e
      · refine ⟨j + 2, by omega, ?_⟩
        rw [runFor_add, hm]
        exact resume_end1 t s first m hf ho ha hls hlt
    cases hb : bol t s with
    | false =>
      refine fin ((at1 t s first ((seen.add 6).add 44)).say false) 1 (by omega) ?_ rfl rfl rfl rfl rfl rfl rfl rfl rfl rfl rfl rfl
      rw [runFor_succ, at1_pc, hb]
      rfl
    | true =>
      have e1 : (at1 t s first seen).runFor 1 = { at1 t s first ((seen.add 6).add 44) with pc := 7 } := by
        rw [runFor_succ, at1_pc, hb]
        rfl
      have e2 : (at1 t s first seen).runFor 2 = ({ at1 t s first (((seen.add 6).add 44).add 16) with pc := 7 } : M).say false := by
        rw [show (2 : Nat) = 1 + 1 from rfl, runFor_add, e1, runFor_succ, step_run _ rfl rfl (by show 7 < 10; decide), exec_LIT _ 46 rfl rfl]
        show M.runFor 0 (if s ≥ t.size then _ else if (t.getD s 0 == 46) = true then _ else _) = _
        by_cases hlt : s < t.size
        · rw [if_neg (by omega)]
          have := hno s (Nat.le_refl _) hlt
          unfold hit1 at this
          rw [hb, Bool.true_and] at this
          rw [this]
          rfl
        · rw [if_pos (by omega)]
          rfl
      exact fin _ 2 (by omega) e2 rfl rfl rfl rfl rfl rfl rfl rfl rfl rfl rfl rfl

theorem run1_some (t : Array Nat) (p : Nat) (hp : p < t.size) (hh : hit1 t p = true) : ∀ (n s : Nat) (first : Bool) (seen : Seen), n = p + 1 - s → s ≤ p → (∀ q, s ≤ q → q < p → hit1 t q = false) →
    ∃ K, K ≤ 4 * n + 4 ∧ ((at1 t s first seen).runFor K).outcome = some .matched ∧ ((at1 t s first seen).runFor K).start = p ∧ ((at1 t s first seen).runFor K).handed = p + 1 := by
  intro n
  induction n with
  | zero => intro s _ _ hn hs; omega
  | succ n ih =>
    intro s first seen hn hs hno
    by_cases hsp : s = p
    · subst hsp
      unfold hit1 at hh
      obtain ⟨hb, hd⟩ := Bool.and_eq_true_iff.mp hh
      refine ⟨5, by omega, ?_⟩
      have e1 : (at1 t s first seen).runFor 1 = { at1 t s first ((seen.add 6).add 44) with pc := 7 } := by
        rw [runFor_succ, at1_pc, hb]
        rfl
      have e2 : (at1 t s first seen).runFor 2 = ({ at1 t s first (((seen.add 6).add 44).add 16) with pc := 9, pos := s + 1 } : M) := by
        rw [show (2 : Nat) = 1 + 1 from rfl, runFor_add, e1, runFor_succ, step_run _ rfl rfl (by show 7 < 10; decide), exec_LIT _ 46 rfl rfl]
        show M.runFor 0 (if s ≥ t.size then _ else if (t.getD s 0 == 46) = true then _ else _) = _
        rw [if_neg (by omega), if_pos hd]
        rfl
      have e3 : (at1 t s first seen).runFor 3 = ({ at1 t s first ((((seen.add 6).add 44).add 16).add 1) with pc := 9, pos := s + 1, handed := s + 1 } : M).say true := by
        rw [show (3 : Nat) = 2 + 1 from rfl, runFor_add, e2, runFor_succ, step_run _ rfl rfl (by show 9 < 10; decide), exec_SUCC _ rfl rfl rfl]
        rfl
      rw [show (5 : Nat) = 3 + 2 from rfl, runFor_add, e3]
      exact ⟨rfl, rfl, rfl⟩
    · have hlt : s < p := by omega
      have fin : ∀ m : M, ∀ j, j ≤ 2 → (at1 t s first seen).runFor j = m → m.frames = [{ wait := .nextStart, pc := 5, pos := s, outermost := first }] → m.outcome = none → m.answer = some false → m.code = code1 → m.text = t → m.lim = t.size → m.lastStart = t.size → m.weight = 1 → m.marks = #[] → m.wholeText = false → m.loops = #[] → m.inner = none →
          ∃ K, K ≤ 4 * (n + 1) + 4 ∧ ((at1 t s first seen).runFor K).outcome = some .matched ∧ ((at1 t s first seen).runFor K).start = p ∧ ((at1 t s first seen).runFor K).handed = p + 1 := by
        intro m j hj hm hf ho ha hc ht hl hls hw hma hwt hlo hin
        obtain ⟨K, hK, e⟩ := ih (s + 1) false m.seen (by omega) (by omega) (fun q h1 h2 => hno q (by omega) h2)
        refine ⟨j + (1 + K), by omega, ?_⟩
        rw [runFor_add, hm, Nat.add_comm 1 K, runFor_succ, resume_no1 t s first m hf ho ha hc ht hl hls (by omega) hw hma hwt hlo hin]
        exact e
      cases hb : bol t s with
      | false =>
        refine fin ((at1 t s first ((seen.add 6).add 44)).say false) 1 (by omega) ?_ rfl rfl rfl rfl rfl rfl rfl rfl rfl rfl rfl rfl
        rw [runFor_succ, at1_pc, hb]
        rfl
      | true =>
        have e1 : (at1 t s first seen).runFor 1 = { at1 t s first ((seen.add 6).add 44) with pc := 7 } := by
          rw [runFor_succ, at1_pc, hb]
          rfl
        have e2 : (at1 t s first seen).runFor 2 = ({ at1 t s first (((seen.add 6).add 44).add 16) with pc := 7 } : M).say false := by
          rw [show (2 : Nat) = 1 + 1 from rfl, runFor_add, e1, runFor_succ, step_run _ rfl rfl (by show 7 < 10; decide), exec_LIT _ 46 rfl rfl]
          show M.runFor 0 (if s ≥ t.size then _ else if (t.getD s 0 == 46) = true then _ else _) = _
          rw [if_neg (by omega)]
          have := hno s (Nat.le_refl _) hlt
          unfold hit1 at this
          rw [hb, Bool.true_and] at this
          rw [this]
          rfl
        exact fin _ 2 (by omega) e2 rfl rfl rfl rfl rfl rfl rfl rfl rfl rfl rfl rfl

theorem search1 (t : Array Nat) (s : Nat) (h : s < t.size) : Sre.forSearch code1 t 0 s t.size false = at1 t s true (({} : Seen).add 14) := by
  unfold Sre.forSearch
  have e : (Sre.header code1) = (1, 5) := rfl
  rw [e]
  show (if (decide (s > t.size) || decide (t.size - s < 1)) = true then _ else _) = _
  rw [if_neg (by simp; omega)]
  rfl
theorem search1_end (t : Array Nat) (s : Nat) (h : ¬ s < t.size) : ((Sre.forSearch code1 t 0 s t.size false).runFor 1).outcome = some .failed := by
  unfold Sre.forSearch
  have e : (Sre.header code1) = (1, 5) := rfl
  rw [e]
  show (M.runFor 1 (if (decide (s > t.size) || decide (t.size - s < 1)) = true then _ else _)).outcome = _
  rw [if_pos (by simp; omega)]
  rfl

/-! pattern 2 -/
noncomputable def isEnd (c : Nat) : Bool := c == 10 || c == 13
theorem inSet2 (c : Nat) (seen : Seen) : ∃ seen', Sre.inSet code2 c 36 5 true seen = .ok (isEnd c, seen') := by
  show ∃ seen', (if (c == 10) = true then (Except.ok (true, seen.add 16) : Except String (Bool × Seen)) else if (c == 13) = true then .ok (true, (seen.add 16).add 16) else .ok (!true, ((seen.add 16).add 16).add 0)) = .ok (isEnd c, seen')
  unfold isEnd
  cases h : (c == 10) with
  | true => exact ⟨_, rfl⟩
  | false =>
    cases h' : (c == 13) with
    | true => exact ⟨_, rfl⟩
    | false => exact ⟨_, rfl⟩
theorem admitted_none (m : M) (hc : m.code = code2) : ∀ (fuel s : Nat) (seen : Seen), (∀ p, s ≤ p → p < m.lim → isEnd (m.text.getD p 0) = false) →
    ∃ seen', M.admitted m fuel s seen = .ok (none, seen')
  | 0, _, seen, _ => ⟨seen, rfl⟩
  | fuel + 1, s, seen, h => by
    show ∃ seen', (if s ≥ m.lim then (.ok (none, seen) : Except String (Option Nat × Seen)) else match Sre.inSet m.code (m.text.getD s 0) m.code.size 5 true seen with | .ok (true, seen) => .ok (some s, seen) | .ok (false, seen) => M.admitted m fuel (s + 1) seen | .error why => .error why) = _
    by_cases hs : s ≥ m.lim
    · rw [if_pos hs]; exact ⟨_, rfl⟩
    · rw [if_neg hs, hc]
      obtain ⟨seen1, e⟩ := inSet2 (m.text.getD s 0) seen
      rw [show code2.size = 36 from rfl, e, h s (Nat.le_refl _) (by omega)]
      exact admitted_none m hc fuel (s + 1) seen1 fun p h1 h2 => h p (by omega) h2
theorem admitted_some (m : M) (hc : m.code = code2) (p : Nat) (hp : p < m.lim) (hh : isEnd (m.text.getD p 0) = true) : ∀ (fuel s : Nat) (seen : Seen), p < s + fuel → s ≤ p → (∀ q, s ≤ q → q < p → isEnd (m.text.getD q 0) = false) →
    ∃ seen', M.admitted m fuel s seen = .ok (some p, seen')
  | 0, s, _, hf, hs, _ => by omega
  | fuel + 1, s, seen, hf, hs, h => by
    show ∃ seen', (if s ≥ m.lim then (.ok (none, seen) : Except String (Option Nat × Seen)) else match Sre.inSet m.code (m.text.getD s 0) m.code.size 5 true seen with | .ok (true, seen) => .ok (some s, seen) | .ok (false, seen) => M.admitted m fuel (s + 1) seen | .error why => .error why) = _
    rw [if_neg (by omega), hc]
    obtain ⟨seen1, e⟩ := inSet2 (m.text.getD s 0) seen
    rw [show code2.size = 36 from rfl, e]
    by_cases hsp : s = p
    · subst hsp
      rw [hh]
      exact ⟨_, rfl⟩
    · rw [h s (Nat.le_refl _) (by omega)]
      exact admitted_some m hc p hp hh fuel (s + 1) seen1 (by omega) (by omega) fun q h1 h2 => h q (by omega) h2

/-- the machine of pattern 2 about to try at s -/
noncomputable def at2 (t : Array Nat) (s : Nat) (seen : Seen) : M :=
  { code := code2, text := t, lim := t.size, start := s, lastStart := t.size, mustAdvance := false, pc := 10, pos := s, handed := s, outermost := true,
    marks := #[], frames := [{ wait := .nextStart, pc := 10, pos := s, outermost := true }], weight := 1, seen := seen }
theorem search2_none (t : Array Nat) (s : Nat) (h : ∀ p, s ≤ p → p < t.size → isEnd (t.getD p 0) = false) : ((Sre.forSearch code2 t 0 s t.size false).runFor 1).outcome = some .failed := by
  unfold Sre.forSearch
  have e : (Sre.header code2) = (1, 10) := rfl
  rw [e]
  show (M.runFor 1 (if (decide (s > t.size) || decide (t.size - s < 1)) = true then _ else _)).outcome = _
  split
  · rfl
  · unfold M.attemptFrom
    rw [if_neg (by exact Bool.false_ne_true)]
    have hx : ∀ m : M, m.code = code2 → m.text = t → m.lim = t.size → m.outcome = none → m.frames = [] → (M.runFor 1 (match M.admitted m (m.lim + 1 - s) s m.seen with | .ok (some s, seen) => ({ m with mustAdvance := false, seen := seen } : M).attemptAt s true | .ok (none, seen) => ({ m with seen := seen } : M).say false | .error why => m.stick why)).outcome = some .failed := by
      intro m h1 h2 h3 h4 h5
      obtain ⟨seen', e⟩ := admitted_none m h1 (m.lim + 1 - s) s m.seen (by rw [h2, h3]; exact h)
      rw [e]
      show (M.runFor 1 (({ m with seen := seen' } : M).say false)).outcome = _
      rw [runFor_succ]
      unfold M.step
      show (M.runFor 0 (if m.outcome.isSome = true then _ else _)).outcome = _
      rw [h4]
      show (M.runFor 0 (match (some false : Option Bool), m.frames with | some yes, [] => _ | some yes, f :: rest => _ | none, _ => _)).outcome = _
      rw [h5]
      rfl
    exact hx _ rfl rfl rfl rfl rfl
theorem search2_some (t : Array Nat) (s p : Nat) (hp : p < t.size) (hs : s ≤ p) (hh : isEnd (t.getD p 0) = true) (h : ∀ q, s ≤ q → q < p → isEnd (t.getD q 0) = false) : ∃ seen, Sre.forSearch code2 t 0 s t.size false = at2 t p seen := by
  unfold Sre.forSearch
  have e : (Sre.header code2) = (1, 10) := rfl
  rw [e]
  show ∃ seen, (if (decide (s > t.size) || decide (t.size - s < 1)) = true then _ else _) = _
  rw [if_neg (by simp; omega)]
  unfold M.attemptFrom
  rw [if_neg (by exact Bool.false_ne_true)]
  have hx : ∀ m : M, m.code = code2 → m.text = t → m.lim = t.size → (∀ seen', ({ m with mustAdvance := false, seen := seen' } : M).attemptAt p true = at2 t p seen') → ∃ seen', (match M.admitted m (m.lim + 1 - s) s m.seen with | .ok (some s, seen) => ({ m with mustAdvance := false, seen := seen } : M).attemptAt s true | .ok (none, seen) => ({ m with seen := seen } : M).say false | .error why => m.stick why) = at2 t p seen' := by
    intro m h1 h2 h3 h4
    obtain ⟨seen', e⟩ := admitted_some m h1 p (by rw [h3]; exact hp) (by rw [h2]; exact hh) (m.lim + 1 - s) s m.seen (by rw [h3]; omega) hs (by rw [h2]; exact h)
    rw [e]
    exact ⟨seen', h4 seen'⟩
  exact hx _ rfl rfl rfl fun _ => rfl
end Mine
end
section
open PySem
namespace Mine
open PySem.Sre

theorem exec_JUMP (m : M) (h0 : m.word 0 = 15) : m.exec = { m with seen := m.seen.add 15, pc := m.pc + 1 + m.word 1 } := by
  unfold M.exec
  rw [h0]
  rfl
theorem exec_BRANCH (m : M) (h0 : m.word 0 = 7) : m.exec = ({ m with seen := m.seen.add 7 } : M).alternative (m.pc + 1) (({ m with seen := m.seen.add 7 } : M).keep m.inner.isSome) := by
  unfold M.exec
  rw [h0]
  rfl
theorem exec_NOT (m : M) (h0 : m.word 0 = 5) (h2 : m.word 2 = 0) (hi : m.inner = none) : m.exec = ({ m with seen := m.seen.add 5 } : M).attempt { ({ m with seen := m.seen.add 5 } : M).frame .lookNot with kept := ({ m with seen := m.seen.add 5 } : M).keep false } (m.pc + 3) m.pos false := by
  unfold M.exec
  rw [h0]
  show (if m.pos < m.word 2 then _ else M.attempt _ { M.frame _ .lookNot with kept := M.keep _ (true && m.inner.isSome) } (m.pc + 3) (m.pos - m.word 2) false) = _
  rw [h2, hi, if_neg (Nat.not_lt_zero _)]
  rfl

noncomputable def k0 : Sre.Kept := { lastmark := -1, lastindex := -1, whole := false, marks := #[] }
noncomputable def fS (p : Nat) : Sre.Frame := { wait := .nextStart, pc := 10, pos := p, outermost := true }
noncomputable def fB (pc p : Nat) : Sre.Frame := { wait := .nextBranch, pc := pc, pos := p, outermost := true, kept := k0 }
noncomputable def fN (p : Nat) : Sre.Frame := { wait := .lookNot, pc := 26, pos := p, outermost := true, kept := k0 }
noncomputable def Z (t : Array Nat) (p pc pos handed : Nat) (fs : List Sre.Frame) (wt : Nat) (om : Bool) (ans : Option Bool) (seen : Seen) : M :=
  { code := code2, text := t, lim := t.size, start := p, lastStart := t.size, mustAdvance := false, pc := pc, pos := pos, handed := handed, outermost := om,
    marks := #[], frames := fs, weight := wt, answer := ans, seen := seen }

section
variable (t : Array Nat) (p pos handed wt : Nat) (fs : List Sre.Frame) (om : Bool) (seen : Seen)
theorem z_lit (pc c : Nat) (hpc : pc < 36) (h0 : code2.getD (pc + 0) 0 = 16) (h1 : code2.getD (pc + 1) 0 = c) : ∃ seen', (Z t p pc pos handed fs wt om none seen).step =
    if pos < t.size ∧ t.getD pos 0 = c then Z t p (pc + 2) (pos + 1) handed fs wt om none seen' else Z t p pc pos handed fs wt om (some false) seen' := by
  refine ⟨seen.add 16, ?_⟩
  rw [step_run _ rfl rfl hpc, exec_LIT (Z t p pc pos handed fs wt om none seen) c h0 h1]
  show (if pos ≥ t.size then _ else if (t.getD pos 0 == c) = true then _ else _) = _
  by_cases hp : pos < t.size
  · rw [if_neg (by omega)]
    by_cases hc : t.getD pos 0 = c
    · rw [if_pos (by simpa using hc), if_pos ⟨hp, hc⟩]; rfl
    · rw [if_neg (by simpa using hc), if_neg (fun h => hc h.2)]; rfl
  · rw [if_pos (by omega), if_neg (fun h => hp h.1)]; rfl
theorem z_jump (pc k : Nat) (hpc : pc < 36) (h0 : code2.getD (pc + 0) 0 = 15) (h1 : code2.getD (pc + 1) 0 = k) : ∃ seen', (Z t p pc pos handed fs wt om none seen).step = Z t p (pc + 1 + k) pos handed fs wt om none seen' := by
  refine ⟨seen.add 15, ?_⟩
  rw [step_run _ rfl rfl hpc, exec_JUMP (Z t p pc pos handed fs wt om none seen) h0]
  show _ = Z t p (pc + 1 + k) pos handed fs wt om none (seen.add 15)
  rw [← h1]
  rfl
theorem z_succ : ∃ seen', (Z t p 35 pos handed fs wt om none seen).step = Z t p 35 pos pos fs wt om (some true) seen' := by
  refine ⟨seen.add 1, ?_⟩
  rw [step_run _ rfl rfl (by show 35 < 36; decide), exec_SUCC _ rfl rfl rfl]
  rfl
end

/-- from alternatives: the end once SUCCESS is reached -/
theorem z_end (t : Array Nat) (p pc pos handed wt bpc : Nat) (seen : Seen) : ((Z t p pc pos handed [fB bpc p, fS p] wt true (some true) seen).runFor 3).outcome = some .matched ∧
    ((Z t p pc pos handed [fB bpc p, fS p] wt true (some true) seen).runFor 3).start = p ∧ ((Z t p pc pos handed [fB bpc p, fS p] wt true (some true) seen).runFor 3).handed = handed := ⟨rfl, rfl, rfl⟩

/-- the next alternative -/
theorem z_next (t : Array Nat) (p pc pos handed bpc k : Nat) (om : Bool) (seen : Seen) (hk : code2.getD bpc 0 = k) (h2 : code2.getD (bpc + k) 0 ≠ 0) :
    (Z t p pc pos handed [fB bpc p, fS p] 2 om (some false) seen).step = Z t p (bpc + k + 1) p p [fB (bpc + k) p, fS p] 2 true none seen := by
  subst hk
  show (if ((code2.getD (bpc + code2.getD bpc 0) 0 == 0) = true) then _ else _) = _
  rw [if_neg (by simpa using h2)]
  rfl
theorem z_branch (t : Array Nat) (p : Nat) (seen : Seen) : ∃ seen', (at2 t p seen).step = Z t p 12 p p [fB 11 p, fS p] 2 true none seen' := by
  refine ⟨seen.add 7, ?_⟩
  rw [step_run _ rfl rfl (by show 10 < 36; decide), exec_BRANCH _ rfl]
  rfl

noncomputable def end2 (t : Array Nat) (p : Nat) : Nat := if t.getD p 0 = 13 ∧ p + 1 < t.size ∧ t.getD (p + 1) 0 = 10 then p + 2 else p + 1

noncomputable def Good2 (t : Array Nat) (p : Nat) (m : M) : Prop := m.outcome = some .matched ∧ m.start = p ∧ m.handed = end2 t p
noncomputable def Reach2 (t : Array Nat) (p : Nat) (m : M) : Prop := ∃ K, K ≤ 40 ∧ Good2 t p (m.runFor K)
noncomputable def ReachN (t : Array Nat) (p n : Nat) (m : M) : Prop := ∃ K, K ≤ n ∧ Good2 t p (m.runFor K)
theorem chain {t : Array Nat} {p n : Nat} {m m' : M} (h : m.step = m') (hn : ReachN t p n m') : ReachN t p (n + 1) m := by
  obtain ⟨K, hK, g⟩ := hn
  exact ⟨K + 1, by omega, by rw [runFor_succ, h]; exact g⟩
theorem z_fin (t : Array Nat) (p pc pos handed wt bpc : Nat) (seen : Seen) (he : end2 t p = handed) : ReachN t p 3 (Z t p pc pos handed [fB bpc p, fS p] wt true (some true) seen) :=
  ⟨3, Nat.le_refl _, rfl, rfl, he.symm⟩

theorem run2 (t : Array Nat) (p : Nat) (hp : p < t.size) (hh : isEnd (t.getD p 0) = true) (seen : Seen) : ReachN t p 15 (at2 t p seen) := by
  have up : ∀ n, n ≤ 15 → ReachN t p n (at2 t p seen) → ReachN t p 15 (at2 t p seen) := fun n hn ⟨K, hK, g⟩ => ⟨K, Nat.le_trans hK hn, g⟩
  obtain ⟨s1, e1⟩ := z_branch t p seen
  obtain ⟨s2, e2⟩ := z_lit t p p p 2 [fB 11 p, fS p] true s1 12 13 (by decide) rfl rfl
  by_cases h13 : t.getD p 0 = 13
  · rw [if_pos ⟨hp, h13⟩] at e2
    obtain ⟨s3, e3⟩ := z_lit t p (p + 1) p 2 [fB 11 p, fS p] true s2 14 10 (by decide) rfl rfl
    by_cases h10 : p + 1 < t.size ∧ t.getD (p + 1) 0 = 10
    · rw [if_pos h10] at e3
      obtain ⟨s4, e4⟩ := z_jump t p (p + 2) p 2 [fB 11 p, fS p] true s3 16 18 (by decide) rfl rfl
      obtain ⟨s5, e5⟩ := z_succ t p (p + 2) p 2 [fB 11 p, fS p] true s4
      have he : end2 t p = p + 2 := by unfold end2; rw [if_pos ⟨h13, h10⟩]
      exact up 8 (by omega) (chain e1 (chain e2 (chain e3 (chain e4 (chain e5 (z_fin t p _ _ _ _ _ _ he))))))
    · rw [if_neg h10] at e3
      have he : end2 t p = p + 1 := by unfold end2; rw [if_neg (fun h => h10 h.2)]
      have e4 := z_next t p 14 (p + 1) p 11 7 true s3 rfl (by decide)
      obtain ⟨s5, e5⟩ := z_lit t p p p 2 [fB (11 + 7) p, fS p] true s3 (11 + 7 + 1) 10 (by decide) rfl rfl
      rw [if_neg (fun h => by have := h.2; omega)] at e5
      have e6 := z_next t p (11 + 7 + 1) p p (11 + 7) 5 true s5 rfl (by decide)
      obtain ⟨s7, e7⟩ := z_lit t p p p 2 [fB (11 + 7 + 5) p, fS p] true s5 (11 + 7 + 5 + 1) 13 (by decide) rfl rfl
      rw [if_pos ⟨hp, h13⟩] at e7
      have e8 : (Z t p (11 + 7 + 5 + 1 + 2) (p + 1) p [fB (11 + 7 + 5) p, fS p] 2 true none s7).step = Z t p 29 (p + 1) (p + 1) [fN (p + 1), fB (11 + 7 + 5) p, fS p] 3 false none (s7.add 5) := by
        rw [step_run _ rfl rfl (by show 26 < 36; decide), exec_NOT _ rfl rfl rfl]
        rfl
      obtain ⟨s9, e9⟩ := z_lit t p (p + 1) (p + 1) 3 [fN (p + 1), fB (11 + 7 + 5) p, fS p] false (s7.add 5) 29 10 (by decide) rfl rfl
      rw [if_neg h10] at e9
      have e10 : (Z t p 29 (p + 1) (p + 1) [fN (p + 1), fB (11 + 7 + 5) p, fS p] 3 false (some false) s9).step = Z t p 32 (p + 1) (p + 1) [fB (11 + 7 + 5) p, fS p] 2 true none s9 := rfl
      obtain ⟨s11, e11⟩ := z_jump t p (p + 1) (p + 1) 2 [fB (11 + 7 + 5) p, fS p] true s9 32 2 (by decide) rfl rfl
      obtain ⟨s12, e12⟩ := z_succ t p (p + 1) (p + 1) 2 [fB (11 + 7 + 5) p, fS p] true s11
      exact up 15 (by omega) (chain e1 (chain e2 (chain e3 (chain e4 (chain e5 (chain e6 (chain e7 (chain e8 (chain e9 (chain e10 (chain e11 (chain e12 (z_fin t p _ _ _ _ _ _ he)))))))))))))
  · have h10 : t.getD p 0 = 10 := by
      unfold isEnd at hh
      rcases Bool.or_eq_true_iff.mp hh with h | h
      · exact of_decide_eq_true h
      · exact absurd (of_decide_eq_true h) h13
    have he : end2 t p = p + 1 := by unfold end2; rw [if_neg (fun h => h13 h.1)]
    rw [if_neg (fun h => h13 h.2)] at e2
    have e4 := z_next t p 12 p p 11 7 true s2 rfl (by decide)
    obtain ⟨s5, e5⟩ := z_lit t p p p 2 [fB (11 + 7) p, fS p] true s2 (11 + 7 + 1) 10 (by decide) rfl rfl
    rw [if_pos ⟨hp, h10⟩] at e5
    obtain ⟨s6, e6⟩ := z_jump t p (p + 1) p 2 [fB (11 + 7) p, fS p] true s5 (11 + 7 + 1 + 2) 13 (by decide) rfl rfl
    obtain ⟨s7, e7⟩ := z_succ t p (p + 1) p 2 [fB (11 + 7) p, fS p] true s6
    exact up 9 (by omega) (chain e1 (chain e2 (chain e4 (chain e5 (chain e6 (chain e7 (z_fin t p _ _ _ _ _ _ he)))))))
end Mine
end
section
open PySem
namespace Mine
open PySem.Builtin.Re

section
variable {Md : Model} {A : Around} {E : Value → Shared → Prop} {s : Shared}
theorem runFor_same (m : Sre.M) {a b : Nat} (ha : (m.runFor a).outcome.isSome = true) (hb : (m.runFor b).outcome.isSome = true) : m.runFor a = m.runFor b := by
  rcases Nat.le_total a b with h | h
  · obtain ⟨k, rfl⟩ := Nat.exists_eq_add_of_le h
    rw [runFor_add, runFor_stop _ ha]
  · obtain ⟨k, rfl⟩ := Nat.exists_eq_add_of_le h
    rw [runFor_add, runFor_stop _ hb]
theorem wp_drive {Q : Sre.M → Shared → Prop} : ∀ (n : Nat) (m : Sre.M) (K : Nat), K < 4 * n → (m.runFor K).outcome.isSome = true → Q (m.runFor K) s → wpAny Md A (reDrive n m) Q E s
  | 0, _, K, hK, _, _ => by omega
  | n + 1, m, K, hK, ho, h => by
    unfold reDrive
    show wpAny Md A (if (m.runFor reTurnSteps).outcome.isSome = true then pure (m.runFor reTurnSteps) else (rule "sre.turn" >>= fun _ => reDrive n (m.runFor reTurnSteps))) Q E s
    split
    · rename_i h4
      rw [runFor_same m h4 ho]
      exact wpAny_pure h
    · rename_i h4
      have hlt : 4 < K := by
        apply Nat.lt_of_not_le
        intro hle
        obtain ⟨k, e⟩ := Nat.exists_eq_add_of_le hle
        apply h4
        show (m.runFor 4).outcome.isSome = true
        rw [e, runFor_add, runFor_stop _ ho]
        exact ho
      obtain ⟨k, rfl⟩ := Nat.exists_eq_add_of_le (Nat.le_of_lt hlt)
      rw [runFor_add] at ho h
      refine wpAny_bind (wpAny_rule ?_)
      exact wp_drive n (m.runFor 4) k (by omega) ho h
theorem wp_rules {f : Nat → Sem (ForInStep PUnit)} {Q : PUnit → Shared → Prop} (hf : ∀ i (P : ForInStep PUnit → Shared → Prop), P (.yield ⟨⟩) s → wpAny Md A (f i) P E s) (h : Q ⟨⟩ s) : ∀ l : List Nat, wpAny Md A (forIn l PUnit.unit fun i _ => f i) Q E s
  | [] => wpAny_pure h
  | i :: l => by
    rw [List.forIn_cons]
    exact wpAny_bind (hf i _ (wp_rules hf h l))
theorem wp_runToEnd {m : Sre.M} {Q : Option Sre.M → Shared → Prop} {K : Nat} (hK : K < 2 ^ 66) {o : Sre.Outcome} (ho : (m.runFor K).outcome = some o) (h : match o with | .matched => Q (some (m.runFor K)) s | .failed => Q none s | .stuck _ => False) : wpAny Md A (reRunToEnd m) Q E s := by
  unfold reRunToEnd
  refine wpAny_bind (wp_drive (2 ^ 64) m K (by omega) (by rw [ho]; rfl) ?_)
  refine wpAny_bind (wp_rules (fun i P hP => ?_) ?_ _)
  · split
    · exact wpAny_bind (wpAny_rule (wpAny_pure hP))
    · exact wpAny_bind (wpAny_pure (wpAny_pure hP))
  · rw [ho]
    cases o with
    | matched => exact wpAny_pure h
    | failed => exact wpAny_pure h
    | stuck => exact h.elim
end
end Mine
end
section
open PySem
namespace Mine
set_option maxRecDepth 100000
theorem slot_sub : Slot "re.Pattern" "sub" "re.Pattern.sub" :=
  .of (owner := "re.Pattern") (n := "sub") (by rw [typeLookup_type, builtinLookup_eq_fast]; kernel_rfl) (by decide +kernel) (by decide +kernel) (by decide +kernel)
    (by first | exact .inl (by decide +kernel) | exact .inr (by decide +kernel)) (by rw [isSubtype_type]; kernel_rfl)
theorem type_sub : typeOf (.builtin "re.Pattern.sub") = pure (.type "method_descriptor") := by show builtinType _ = _; rw [builtinType_eq_fast]; kernel_rfl
theorem entry_sub : entryFor table "re.Pattern.sub" = some Builtin.«re.Pattern.sub» := by first | exact entryFor_of_tree (by kernel_rfl) | exact entryFor_of_fast (by kernel_rfl)
theorem entry_loop : entryFor table "re.Pattern.sub.loop" = some Builtin.«re.Pattern.sub.loop» := by first | exact entryFor_of_tree (by kernel_rfl) | exact entryFor_of_fast (by kernel_rfl)
theorem args_sub_3 (a b c : Value) : argsOk "re.Pattern.sub" ⟨[a, b, c], []⟩ := by
  unfold argsOk
  kernel_rfl
end Mine
end
section
open PySem PySem.Builtin.Re
namespace Mine
set_option maxRecDepth 100000

noncomputable def pat (a b c d : Value) (ca : Addr) : Obj := { cls := .type "re.Pattern", data := .fields #[a, b, .int 0 0, c, d, .ref ca, .int 0 0] }
structure PatAt (h : Heap) (pa : Addr) (code : Array Nat) : Prop where
  ex : ∃ a b c d ca oc items n, h.get? pa = some (pat a b c d ca) ∧ h.get? ca = some oc ∧ oc.cls = .type "tuple" ∧ oc.data = .seq items n ∧ (items.map reRawOf).map (·.toNat) = code

noncomputable def tgt (pa : Addr) (data : Str) (t : Tok) (code : Array Nat) : ReTarget :=
  { pattern := .ref pa, string := .str data t, code := code, text := data.cps, kind := 0, groups := 0, pos := 0, lim := data.cps.size }

theorem wp_target {Md : Model} {A : Around} {E : Value → Shared → Prop} {s : Shared} {pa : Addr} {code : Array Nat} {data : Str} {t : Tok} {Q : ReTarget → Shared → Prop}
    (P : PatAt s.heap pa code) (h : Q (tgt pa data t code) s) : wpAny Md A (reWholeTarget (.ref pa) (.str data t)) Q E s := by
  obtain ⟨a, b, c, d, ca, oc, items, n, h1, h2, _, h3, h4⟩ := P.ex
  subst h4
  unfold reWholeTarget fieldsOf reTextOf asStr? reNoCollectionInside reRawItems seqItems?
  refine wpAny_bind (wpAny_bind (wpAny_load h1 ?_))
  refine wpAny_pure ?_
  refine wpAny_bind (wpAny_bind (wpAny_pure ?_))
  refine wpAny_pure ?_
  dsimp only
  refine wpAny_ite_false rfl (wpAny_ite_false rfl (wpAny_bind (wpAny_ite_false rfl (wpAny_pure (wpAny_bind (wpAny_bind ?_))))))
  refine wpAny_bind (wpAny_load h2 ?_)
  rw [h3]
  exact wpAny_pure (wpAny_pure (wpAny_pure h))

/-- what the first match from s on is -/
structure Finder (code : Array Nat) where
  find : Array Nat → Nat → Option (Nat × Nat)
  good : ∀ t s p e, find t s = some (p, e) → s ≤ p ∧ p < e ∧ e ≤ t.size
  runs : ∀ (Md : Model) (A : Around) (E : Value → Shared → Prop) (s : Shared) (pa : Addr) (data : Str) (t : Tok) (i : Nat) (Q : Option Sre.M → Shared → Prop), data.cps.size ≤ 2 ^ 30 →
    (match find data.cps i with | none => Q none s | some (p, e) => ∀ m : Sre.M, m.start = p → m.handed = e → Q (some m) s) → wpAny Md A (reNextFound (tgt pa data t code) i false) Q E s

inductive Subbed {code : Array Nat} (F : Finder code) (t : Array Nat) (r : List Nat) : Nat → List Nat → Prop
  | done {s : Nat} : F.find t s = none → Subbed F t r s (t.toList.drop s)
  | next {s p e : Nat} {out : List Nat} : F.find t s = some (p, e) → Subbed F t r e out → Subbed F t r s ((t.toList.drop s).take (p - s) ++ r ++ out)

noncomputable def joined (l : List (Str × Tok)) : List Nat := (l.map fun x => x.1.cps.toList).flatten

theorem wp_slice {Md : Model} {A : Around} {E : Value → Shared → Prop} {s : Shared} {t : Array Nat} {b e : Nat} {Q : Value → Shared → Prop} (hz : t.size ≤ sizeLine)
    (h : Q (.str ⟨t.extract b e⟩ s.toks) { s with toks := s.toks + 1 }) : wpAny Md A (reSlice t 0 b e) Q E s := by
  unfold reSlice
  refine wpAny_ite_true rfl ?_
  refine wpAny_mkStr h ?_
  show (t.extract b e).size ≤ sizeLine
  rw [Array.size_extract]
  omega

theorem wp_slice0 {Md : Model} {A : Around} {E : Value → Shared → Prop} {s : Shared} {t : Array Nat} {Q : Value → Shared → Prop}
    (h : Q (.str ⟨#[]⟩ s.toks) { s with toks := s.toks + 1 }) : wpAny Md A (reSlice t 0 0 0) Q E s := by
  unfold reSlice
  refine wpAny_ite_true rfl ?_
  have e : t.extract 0 0 = #[] := by simp
  rw [e]
  exact wpAny_mkStr h (Nat.zero_le _)

noncomputable def lstO (l : List (Str × Tok)) (n : Nat) : Obj := { cls := .type "list", data := .seq (strValues l).toArray n }
theorem wp_pushStr {Md : Model} {A : Around} {E : Value → Shared → Prop} {s : Shared} {D : Addr} {l : List (Str × Tok)} {n : Nat} {x : Str} {t : Tok} {Q : Unit → Shared → Prop} (hD : s.heap.get? D = some (lstO l n)) (hz : l.length ≤ sizeLine)
    (h : ∀ h' n', h'.get? D = some (lstO (l ++ [(x, t)]) n') → (∀ b o, b ≠ D → s.heap.get? b = some o → h'.get? b = some o) → Q () { s with heap := h' }) :
    wpAny Md A (updateSeq D fun a => a.push (.str x t)) Q E s := by
  unfold updateSeq
  refine wpAny_bind (wpAny_load hD ?_)
  show wpAny Md A (update D (Obj.mapSeq fun a => a.push (.str x t)) >>= fun _ => lookBehind D) Q E s
  refine wpAny_bind (wpAny_update hD ?_)
  have hup := Heap.get?_update_self (Obj.mapSeq fun a => a.push (.str x t)) hD rfl
  obtain ⟨n', e⟩ : ∃ n', Obj.mapSeq (fun a => a.push (.str x t)) (lstO l n) = lstO (l ++ [(x, t)]) n' := by
    unfold lstO strValues
    rw [List.map_append]
    unfold Obj.mapSeq
    simp
  rw [e] at hup
  refine wpAny_lookBehind hup ?_ (h _ n' hup fun b o hb e => (Heap.get?_update_other _ _ (Ne.symm hb)).trans e)
  refine pastItsLine_seq ?_
  simp [strValues]
  exact hz
end Mine
end
section
open PySem PySem.Builtin.Re
namespace Mine
set_option maxRecDepth 100000

theorem join_nil_cps (texts : List Str) : (Txt.join ⟨#[]⟩ texts).cps.toList = (texts.map fun x => x.cps.toList).flatten := by
  show (Builtin.Str.glued ⟨#[]⟩ texts).cps.toList = _
  rw [StrLaws.glued_eq_join]
  induction texts with
  | nil => rfl
  | cons x r ih =>
    cases r with
    | nil => simp [Str.join]
    | cons y r =>
      show (x ++ (⟨#[]⟩ : Str) ++ Str.join ⟨#[]⟩ (y :: r)).cps.toList = _
      rw [Str.cps_append, Str.cps_append, Array.toList_append, Array.toList_append, ih]
      simp
theorem joinOk_nil {texts : List Str} (h : ((texts.map fun x => x.cps.toList).flatten).length ≤ sizeLine) : JoinOk ⟨#[]⟩ texts = true := by
  unfold JoinOk
  rw [Bool.not_eq_true', StrLaws.joinTotal]
  unfold Builtin.Str.tooLong
  have e : (texts.map (·.length)).sum = ((texts.map fun x => x.cps.toList).flatten).length := by
    rw [List.length_flatten, List.map_map]
    rfl
  have e0 : (⟨#[]⟩ : Str).length = 0 := rfl
  rw [e, e0, Nat.mul_zero]
  exact decide_eq_false (by omega)

section
variable {prog : Program} {w : World} {A : Around} {code : Array Nat}
abbrev loopC (pa : Addr) (repl : Str) (rt : Tok) (data : Str) (dt : Tok) (k : Int) (i : Nat) (D : Addr) : Code :=
  .builtin "re.Pattern.sub.loop" ⟨[.ref pa, .str data dt, .str repl rt, rawInt 0, rawInt 0, rawInt k, rawInt i, rawInt i, .bool false, .ref D, .bool false], []⟩

theorem sub_loop (F : Finder code) (pa : Addr) (repl : Str) (rt : Tok) (data : Str) (dt : Tok) (D : Addr) (R : Result → Shared → Prop) (s : Shared) (hsz : data.cps.size ≤ 2 ^ 20) (hr : repl.cps.size ≤ 2) {i : Nat} {out : List Nat}
    (X : Subbed F data.cps repl.cps.toList i out) : ∀ (h : Heap) (tk : Nat) (k : Int) (l : List (Str × Tok)) (n : Nat), i ≤ data.cps.size → PatAt h pa code → (∀ b o, s.heap.get? b = some o → h.get? b = some o) → s.heap.get? D = none → h.get? D = some (lstO l n) → l.length ≤ 2 * i → (joined l).length ≤ 3 * i →
    (∀ h' tk' t, (∀ b o, s.heap.get? b = some o → h'.get? b = some o) → R (.ok (.ret (.str ⟨(joined l ++ out).toArray⟩ t))) { s with heap := h', toks := tk' }) →
    codeAny (model prog w) A (loopC pa repl rt data dt k i D) R { s with heap := h, toks := tk } := by
  have hline : sizeLine = 16777216 := sizeLine_eq
  induction X with
  | @done i hf =>
    intro h tk k l n hi hP hold hD0 hD hlen hj hR
    refine codeAny_builtin entry_loop ?_
    unfold Builtin.«re.Pattern.sub.loop»
    refine wpAny_bind (wp_target hP ?_)
    refine wpAny_ite_true rfl ?_
    unfold reLiteralCannotBeTurned asStr?
    refine wpAny_bind (wpAny_bind (wpAny_pure (wpAny_ite_false rfl (wpAny_pure ?_))))
    refine wpAny_bind (wpAny_ite_false rfl ?_)
    refine F.runs _ _ _ _ _ _ _ _ _ (by omega) ?_
    show match F.find data.cps i with | none => _ | some (p, e) => _
    rw [hf]
    dsimp only
    have hW : (data.cps.toList.drop i).length = data.cps.size - i := by simp
    by_cases hlt : i < data.cps.size
    · refine wpAny_ite_true (decide_eq_true hlt) ?_
      refine wpAny_bind (wp_slice (by rw [hline]; show data.cps.size ≤ _; omega) ?_)
      refine wpAny_bind (wp_pushStr hD (by rw [hline]; omega) fun h' n' hD' hk' => ?_)
      have hold' : ∀ b o, s.heap.get? b = some o → h'.get? b = some o := fun b o e => hk' b o (fun q => by rw [q, hD0] at e; cases e) (hold b o e)
      have hnew : joined (l ++ [((⟨(tgt pa data dt code).text.extract (i : Int).toNat (tgt pa data dt code).lim⟩ : Str), tk)]) = joined l ++ data.cps.toList.drop i := by
        unfold joined
        rw [List.map_append, List.flatten_append]
        congr 1
        show [(data.cps.extract i data.cps.size).toList].flatten = _
        simp
        exact List.take_of_length_le (by simp)
      refine wpAny_bind (wp_slice0 ?_)
      refine wpAny_bind (wpAny_bind (wpAny_load hD' ?_))
      refine wpAny_pure ?_
      have hfinal : joined (l ++ [((⟨(tgt pa data dt code).text.extract (i : Int).toNat (tgt pa data dt code).lim⟩ : Str), tk)]) = joined l ++ data.cps.toList.drop i := hnew
      by_cases hem : (strValues (l ++ [((⟨(tgt pa data dt code).text.extract (i : Int).toNat (tgt pa data dt code).lim⟩ : Str), tk)])).toArray.isEmpty = true
      · refine wpAny_ite_true (decide_eq_true hem) (wpAny_bind (wpAny_pure (wpAny_ite_false rfl (wpAny_pure ?_))))
        have hl0 : (l ++ [((⟨(tgt pa data dt code).text.extract (i : Int).toNat (tgt pa data dt code).lim⟩ : Str), tk)]) = [] := by
          have h2 : (strValues (l ++ [((⟨(tgt pa data dt code).text.extract (i : Int).toNat (tgt pa data dt code).lim⟩ : Str), tk)])) = [] := by simpa using hem
          simpa [strValues] using h2
        have hjn : joined l ++ data.cps.toList.drop i = [] := by rw [← hfinal, hl0]; rfl
        have q := hR h' ((tk + 1) + 1) (tk + 1) hold'
        rw [hjn] at q
        simpa using q
      · refine wpAny_ite_false (decide_eq_false hem) (wpAny_bind ?_)
        refine SC.join (l := (l ++ [((⟨(tgt pa data dt code).text.extract (i : Int).toNat (tgt pa data dt code).lim⟩ : Str), tk)])) ⟨_, hD', rfl, _, rfl⟩ rfl (joinOk_nil ?_) fun t' k' => ?_
        · show (((l ++ [((⟨(tgt pa data dt code).text.extract (i : Int).toNat (tgt pa data dt code).lim⟩ : Str), tk)]).map (·.1)).map fun x => x.cps.toList).flatten.length ≤ sizeLine
          rw [List.map_map]
          show (joined (l ++ [((⟨(tgt pa data dt code).text.extract (i : Int).toNat (tgt pa data dt code).lim⟩ : Str), tk)])).length ≤ sizeLine
          rw [hfinal, hline]
          exact Nat.le_trans (by rw [List.length_append, hW]; exact Nat.add_le_add hj (Nat.le_refl _)) (by omega)
        · refine wpAny_ite_false rfl (wpAny_pure ?_)
          have e : Txt.join ⟨#[]⟩ ((l ++ [((⟨(tgt pa data dt code).text.extract (i : Int).toNat (tgt pa data dt code).lim⟩ : Str), tk)]).map (·.1)) = (⟨(joined l ++ data.cps.toList.drop i).toArray⟩ : Str) := by
            apply Str.ext'
            apply Array.toList_inj.mp
            rw [join_nil_cps, ← hfinal]
            simp [joined, List.map_map]
            rfl
          rw [e]
          exact hR h' k' t' hold'
    · refine wpAny_ite_false (decide_eq_false hlt) ?_
      have hd : data.cps.toList.drop i = [] := List.drop_eq_nil_of_le (by simpa using Nat.not_lt.mp hlt)
      refine wpAny_bind (wp_slice0 ?_)
      refine wpAny_bind (wpAny_bind (wpAny_load hD ?_))
      refine wpAny_pure ?_
      have hfinal : joined l = joined l ++ data.cps.toList.drop i := (by rw [hd, List.append_nil])
      by_cases hem : (strValues l).toArray.isEmpty = true
      · refine wpAny_ite_true (decide_eq_true hem) (wpAny_bind (wpAny_pure (wpAny_ite_false rfl (wpAny_pure ?_))))
        have hl0 : l = [] := by
          have h2 : (strValues l) = [] := by simpa using hem
          simpa [strValues] using h2
        have hjn : joined l ++ data.cps.toList.drop i = [] := by rw [← hfinal, hl0]; rfl
        have q := hR h (tk + 1) tk hold
        rw [hjn] at q
        simpa using q
      · refine wpAny_ite_false (decide_eq_false hem) (wpAny_bind ?_)
        refine SC.join (l := l) ⟨_, hD, rfl, _, rfl⟩ rfl (joinOk_nil ?_) fun t' k' => ?_
        · show ((l.map (·.1)).map fun x => x.cps.toList).flatten.length ≤ sizeLine
          rw [List.map_map]
          show (joined l).length ≤ sizeLine
          rw [hfinal, hline]
          exact Nat.le_trans (by rw [List.length_append, hW]; exact Nat.add_le_add hj (Nat.le_refl _)) (by omega)
        · refine wpAny_ite_false rfl (wpAny_pure ?_)
          have e : Txt.join ⟨#[]⟩ (l.map (·.1)) = (⟨(joined l ++ data.cps.toList.drop i).toArray⟩ : Str) := by
            apply Str.ext'
            apply Array.toList_inj.mp
            rw [join_nil_cps, ← hfinal]
            simp [joined, List.map_map]
            rfl
          rw [e]
          exact hR h k' t' hold
  | @next i p e out hf X ih =>
    intro h tk k l n hi hP hold hD0 hD hlen hj hR
    obtain ⟨g1, g2, g3⟩ := F.good _ _ _ _ hf
    refine codeAny_builtin entry_loop ?_
    unfold Builtin.«re.Pattern.sub.loop»
    refine wpAny_bind (wp_target hP ?_)
    refine wpAny_ite_true rfl ?_
    unfold reLiteralCannotBeTurned asStr?
    refine wpAny_bind (wpAny_bind (wpAny_pure (wpAny_ite_false rfl (wpAny_pure ?_))))
    refine wpAny_bind (wpAny_ite_false rfl ?_)
    refine F.runs _ _ _ _ _ _ _ _ _ (by omega) ?_
    show match F.find data.cps i with | none => _ | some (p, e) => _
    rw [hf]
    intro m hm1 hm2
    dsimp only
    have hPk : ∀ h' : Heap, (∀ b o, b ≠ D → h.get? b = some o → h'.get? b = some o) → PatAt h' pa code := by
      intro h' hk
      obtain ⟨a, b, c, d, ca, oc, items, n', q1, q2, qc, q3, q4⟩ := hP.ex
      exact ⟨a, b, c, d, ca, oc, items, n', hk _ _ (fun q => by rw [q, hD] at q1; exact absurd (congrArg Obj.cls (Option.some.inj q1)) (by show Value.type "list" ≠ Value.type "re.Pattern"; decide)) q1, hk _ _ (fun q => by rw [q, hD] at q2; have q9 := (congrArg Obj.cls (Option.some.inj q2)).trans qc; exact absurd q9 (by show Value.type "list" ≠ Value.type "tuple"; decide)) q2, qc, q3, q4⟩
    have hokd : ∀ h' : Heap, (∀ b o, b ≠ D → h.get? b = some o → h'.get? b = some o) → ∀ b o, s.heap.get? b = some o → h'.get? b = some o := fun h' hk b o e => hk b o (fun q => by rw [q, hD0] at e; cases e) (hold b o e)
    have hfin : ∀ (h' : Heap) (tk' : Nat) (l' : List (Str × Tok)) (n' : Nat), (∀ b o, b ≠ D → h.get? b = some o → h'.get? b = some o) → h'.get? D = some (lstO l' n') → l'.length ≤ l.length + 1 → joined l' = joined l ++ (data.cps.toList.drop i).take (p - i) →
        wpAny (model prog w) (A.under (loopC pa repl rt data dt k i D)) (do
          let item ← (pure (Value.str repl rt) : Sem Value)
          if (item != Value.none) = true then do
            updateSeq D fun x => x.push item
            again (.builtin "re.Pattern.sub.loop" ⟨[.ref pa, .str data dt, .str repl rt, rawInt 0, rawInt 0, rawInt (k + 1), rawInt m.handed, rawInt m.handed, .bool (m.handed == m.start), .ref D, .bool false], []⟩)
          else again (.builtin "re.Pattern.sub.loop" ⟨[.ref pa, .str data dt, .str repl rt, rawInt 0, rawInt 0, rawInt (k + 1), rawInt m.handed, rawInt m.handed, .bool (m.handed == m.start), .ref D, .bool false], []⟩))
          (fun fin s' => match fin with | .done f => R (.ok f) s' | .again c' => c'.quiet = true ∧ codeAny (model prog w) A c' R s') (fun e s' => R (.error e) s') { s with heap := h', toks := tk' } := by
      intro h' tk' l' n' hk' hD' hl' hj'
      refine wpAny_bind (wpAny_pure (wpAny_ite_true rfl (wpAny_bind (wp_pushStr hD' (by rw [hline]; omega) fun h2 n2 hD2 hk2 => ?_))))
      have hk3 : ∀ b o, b ≠ D → h.get? b = some o → h2.get? b = some o := fun b o q e => hk2 b o q (hk' b o q e)
      have hms : (m.handed == m.start) = false := by rw [hm1, hm2]; exact beq_eq_false_iff_ne.mpr (by omega)
      rw [hms, hm2]
      refine wpAny_pure ⟨Code.quiet_builtin _ (by decide +kernel), ?_⟩
      refine ih h2 tk' (k + 1) (l' ++ [(repl, rt)]) n2 g3 (hPk h2 hk3) (hokd h2 hk3) hD0 hD2 ?_ ?_ ?_
      · rw [List.length_append]; show l'.length + 1 ≤ _; omega
      · have e : joined (l' ++ [(repl, rt)]) = joined l' ++ repl.cps.toList := by simp [joined]
        have e3 : repl.cps.toList.length ≤ 2 := by simpa using hr
        have e4 : ((data.cps.toList.drop i).take (p - i)).length ≤ p - i := by rw [List.length_take]; omega
        rw [e, hj', List.length_append, List.length_append]
        omega
      · intro h9 tk9 t9 ho9
        have e : joined (l' ++ [(repl, rt)]) = joined l' ++ repl.cps.toList := by simp [joined]
        rw [e, hj']
        have q := hR h9 tk9 t9 ho9
        simpa [List.append_assoc] using q
    by_cases hlt : i < m.start
    · refine wpAny_ite_true (decide_eq_true hlt) ?_
      refine wpAny_bind (wp_slice (by rw [hline]; show data.cps.size ≤ _; omega) ?_)
      refine wpAny_bind (wp_pushStr hD (by rw [hline]; omega) fun h' n' hD' hk' => ?_)
      refine wpAny_ite_true rfl (hfin h' _ _ n' hk' hD' (by rw [List.length_append]; exact Nat.le_refl _) ?_)
      unfold joined
      rw [List.map_append, List.flatten_append]
      congr 1
      rw [hm1]
      show [(data.cps.extract i p).toList].flatten = _
      simp
    · refine wpAny_ite_false (decide_eq_false hlt) ?_
      refine wpAny_ite_true rfl (hfin h _ l n (fun _ _ _ e => e) hD (Nat.le_succ _) ?_)
      have : p - i = 0 := by omega
      rw [this]
      simp
end
end Mine
end
section
open PySem PySem.Builtin.Re
namespace Mine
set_option maxRecDepth 100000
theorem plain_pat2 : PlainAttrs "re.Pattern" :=
  ⟨⟨"object.__getattribute__", by rw [typeLookup_type, builtinLookup_eq_fast]; kernel_rfl, by decide +kernel⟩, by rw [typeLookup_type, builtinLookup_eq_fast]; kernel_rfl⟩
theorem noCall_str : typeLookup (.type "str") "__call__" = pure none := by rw [typeLookup_type, builtinLookup_eq_fast]; kernel_rfl
theorem named_sub (a b : Value) : reNamed "re.Pattern.sub" "sub" ["repl", "string", "count"] 2 [a, b] [] = pure [some a, some b, none] := by rfl

section
variable {prog : Program} {w : World} {A : Around} {E : Value → Shared → Prop} {code : Array Nat} {s : Shared} {Q : Value → Shared → Prop}
theorem sub_call (F : Finder code) {pa : Addr} {repl : Str} {rt : Tok} {data : Str} {dt : Tok} {out : List Nat} (hsz : data.cps.size ≤ 2 ^ 20) (hr : repl.cps.size ≤ 2) (hb : repl.cps.contains 92 = false)
    (X : Subbed F data.cps repl.cps.toList 0 out) (hP : PatAt s.heap pa code)
    (h : ∀ h' tk' t, (∀ b o, s.heap.get? b = some o → h'.get? b = some o) → Q (.str ⟨out.toArray⟩ t) { s with heap := h', toks := tk' }) :
    wpAny (model prog w) A (call (.builtin "re.Pattern.sub") [.ref pa, .str repl rt, .str data dt]) Q E s := by
  have hT : s.TypeIs (.ref pa) "re.Pattern" := by
    obtain ⟨a, b, c, d, ca, oc, items, n, q1, _⟩ := hP.ex
    exact ⟨_, q1, rfl⟩
  refine wpAny_call (codeAny_call_builtin slot_sub.plain entry_sub (slot_sub.check _ _ _ _ _ _ _ _ hT (args_sub_3 _ _ _) ?_))
  unfold Builtin.«re.Pattern.sub» reSubstitute
  dsimp only
  rw [named_sub]
  refine wpAny_bind (wpAny_pure (wpAny_bind (wpAny_pure (wpAny_bind (wpAny_specialOf_val rfl noCall_str ?_)))))
  unfold asStr?
  refine wpAny_ite_false rfl (wpAny_bind (wpAny_pure ?_))
  refine wpAny_bind (wpAny_pure (wpAny_ite_false rfl ?_))
  rw [hb]
  refine wpAny_ite_true rfl (wpAny_bind (wpAny_pure ?_))
  refine wpAny_bind (wpAny_holding (wp_target hP ?_))
  refine wpAny_ite_false rfl (wpAny_bind (wpAny_newObj_type ?_))
  refine wpAny_pure ⟨Code.quiet_builtin _ (by decide +kernel), ?_⟩
  have hD : (s.heap.push { cls := .type "list", data := .seq ([] : List Value).toArray }).get? s.heap.objs.size = some (lstO [] 0) := Heap.get?_push_size _ rfl
  have hk : ∀ b o, s.heap.get? b = some o → (s.heap.push { cls := .type "list", data := .seq ([] : List Value).toArray }).get? b = some o := fun b o e => Heap.get?_push_of_some _ e
  have hP' : PatAt (s.heap.push { cls := .type "list", data := .seq ([] : List Value).toArray }) pa code := by
    obtain ⟨a, b, c, d, ca, oc, items, n, q1, q2, q⟩ := hP.ex
    exact ⟨a, b, c, d, ca, oc, items, n, hk _ _ q1, hk _ _ q2, q⟩
  refine sub_loop F pa repl rt data dt s.heap.objs.size _ s hsz hr X _ s.toks 0 [] 0 (Nat.zero_le _) hP' hk (Heap.get?_none_of_le (Nat.le_refl _)) hD (Nat.le_refl _) (Nat.le_refl _) ?_
  intro h' tk' t ho
  exact h h' tk' t ho
end
end Mine
end
section
open PySem PySem.Builtin.Re
namespace Mine
set_option maxRecDepth 100000

noncomputable def firstFrom (P : Nat → Bool) : Nat → Nat → Option Nat
  | 0, _ => none
  | f + 1, s => if P s = true then some s else firstFrom P f (s + 1)
theorem firstFrom_none {P : Nat → Bool} : ∀ {f s : Nat}, firstFrom P f s = none → ∀ p, s ≤ p → p < s + f → P p = false
  | 0, s, _, p, h1, h2 => by omega
  | f + 1, s, h, p, h1, h2 => by
    unfold firstFrom at h
    split at h
    · cases h
    · rename_i hp
      by_cases e : s = p
      · subst e; simpa using hp
      · exact firstFrom_none h p (by omega) (by omega)
theorem firstFrom_some {P : Nat → Bool} : ∀ {f s p : Nat}, firstFrom P f s = some p → s ≤ p ∧ p < s + f ∧ P p = true ∧ ∀ q, s ≤ q → q < p → P q = false
  | 0, s, p, h => by cases h
  | f + 1, s, p, h => by
    unfold firstFrom at h
    split at h
    · rename_i hp
      cases h
      exact ⟨Nat.le_refl _, by omega, hp, fun q h1 h2 => by omega⟩
    · rename_i hp
      obtain ⟨a, b, c, d⟩ := firstFrom_some h
      refine ⟨by omega, by omega, c, fun q h1 h2 => ?_⟩
      by_cases e : s = q
      · subst e; simpa using hp
      · exact d q (by omega) h2

noncomputable def find1 (t : Array Nat) (s : Nat) : Option (Nat × Nat) := (firstFrom (hit1 t) (t.size - s) s).map fun p => (p, p + 1)
noncomputable def find2 (t : Array Nat) (s : Nat) : Option (Nat × Nat) := (firstFrom (fun p => isEnd (t.getD p 0)) (t.size - s) s).map fun p => (p, end2 t p)

theorem end2_le (t : Array Nat) (p : Nat) (hp : p < t.size) : p < end2 t p ∧ end2 t p ≤ t.size := by
  unfold end2
  by_cases h : t.getD p 0 = 13 ∧ p + 1 < t.size ∧ t.getD (p + 1) 0 = 10
  · rw [if_pos h]; obtain ⟨_, h2, _⟩ := h; omega
  · rw [if_neg h]; omega

noncomputable def F1 : Finder code1 where
  find := find1
  good := by
    intro t s p e h
    unfold find1 at h
    cases hf : firstFrom (hit1 t) (t.size - s) s with
    | none => rw [hf] at h; cases h
    | some q =>
      rw [hf] at h
      cases h
      obtain ⟨a, b, c, d⟩ := firstFrom_some hf
      exact ⟨a, by omega, by omega⟩
  runs := by
    intro Md A E s pa data t i Q hsz h
    unfold reNextFound
    show wpAny Md A (reRunToEnd (Sre.forSearch code1 data.cps 0 i data.cps.size false)) Q E s
    by_cases hi : i < data.cps.size
    · rw [search1 _ _ hi]
      unfold find1 at h
      cases hf : firstFrom (hit1 data.cps) (data.cps.size - i) i with
      | none =>
        rw [hf] at h
        obtain ⟨K, hK, e⟩ := run1_none data.cps _ i true (({} : Sre.Seen).add 14) rfl (by omega) fun p h1 h2 => firstFrom_none hf p h1 (by omega)
        exact wp_runToEnd (K := K) (by omega) e h
      | some p =>
        rw [hf] at h
        obtain ⟨a, b, c, d⟩ := firstFrom_some hf
        obtain ⟨K, hK, e, e1, e2⟩ := run1_some data.cps p (by omega) c _ i true (({} : Sre.Seen).add 14) rfl a d
        exact wp_runToEnd (K := K) (by omega) e (h _ e1 e2)
    · have hf : firstFrom (hit1 data.cps) (data.cps.size - i) i = none := by rw [show data.cps.size - i = 0 by omega]; rfl
      unfold find1 at h
      rw [hf] at h
      exact wp_runToEnd (K := 1) (by omega) (search1_end data.cps i hi) h
noncomputable def F2 : Finder code2 where
  find := find2
  good := by
    intro t s p e h
    unfold find2 at h
    cases hf : firstFrom (fun p => isEnd (t.getD p 0)) (t.size - s) s with
    | none => rw [hf] at h; cases h
    | some q =>
      rw [hf] at h
      cases h
      obtain ⟨a, b, c, d⟩ := firstFrom_some hf
      have := end2_le t p (by omega)
      exact ⟨a, this.1, this.2⟩
  runs := by
    intro Md A E s pa data t i Q hsz h
    unfold reNextFound
    show wpAny Md A (reRunToEnd (Sre.forSearch code2 data.cps 0 i data.cps.size false)) Q E s
    unfold find2 at h
    cases hf : firstFrom (fun p => isEnd (data.cps.getD p 0)) (data.cps.size - i) i with
    | none =>
      rw [hf] at h
      exact wp_runToEnd (K := 1) (by omega) (search2_none data.cps i fun p h1 h2 => firstFrom_none hf p h1 (by omega)) h
    | some p =>
      rw [hf] at h
      obtain ⟨a, b, c, d⟩ := firstFrom_some hf
      obtain ⟨seen, e⟩ := search2_some data.cps i p (by omega) a c d
      rw [e]
      obtain ⟨K, hK, e0, e1, e2⟩ := run2 data.cps p (by omega) c seen
      exact wp_runToEnd (K := K) (by omega) e0 (h _ e1 e2)

noncomputable def eolA : Bool → List Nat → List Nat
  | _, [] => []
  | b, c :: r => if c = 13 then 13 :: 10 :: eolA true r else if c = 10 then (if b = true then eolA false r else 13 :: 10 :: eolA false r) else c :: eolA false r
noncomputable def eolF (l : List Nat) : List Nat := eolA false l
noncomputable def stuffF : Bool → List Nat → List Nat
  | _, [] => []
  | b, c :: r => (if (b && c == 46) = true then [46, 46] else [c]) ++ stuffF (c == 10) r

theorem getD_drop (t : Array Nat) (s : Nat) (h : s < t.size) : t.toList.drop s = t.getD s 0 :: t.toList.drop (s + 1) := by
  rw [List.drop_eq_getElem_cons (by simpa using h)]
  simp [Array.getD, h]

theorem eolF_free : ∀ (l r : List Nat), (∀ c ∈ l, isEnd c = false) → eolF (l ++ r) = l ++ eolF r
  | [], r, _ => rfl
  | c :: l, r, h => by
    have hc := h c List.mem_cons_self
    unfold isEnd at hc
    have h1 : c ≠ 13 := fun e => by subst e; simp at hc
    have h2 : c ≠ 10 := fun e => by subst e; simp at hc
    have ih := eolF_free l r fun d hd => h d (List.mem_cons_of_mem _ hd)
    unfold eolF at ih ⊢
    show (if c = 13 then 13 :: 10 :: eolA true (l ++ r) else if c = 10 then (if false = true then eolA false (l ++ r) else 13 :: 10 :: eolA false (l ++ r)) else c :: eolA false (l ++ r)) = _
    rw [if_neg h1, if_neg h2, ih]
    rfl
theorem eolA_other (r : List Nat) (h : ∀ r', r ≠ 10 :: r') : eolA true r = eolA false r := by
  cases r with
  | nil => rfl
  | cons c r =>
    have hc : c ≠ 10 := fun e => h r (by rw [e])
    show (if c = 13 then _ else if c = 10 then _ else _) = (if c = 13 then _ else if c = 10 then _ else _)
    rw [if_neg hc, if_neg hc]
theorem sub2 (t : Array Nat) : ∀ (n s : Nat), n = t.size - s → s ≤ t.size → Subbed F2 t [13, 10] s (eolF (t.toList.drop s)) := by
  intro n
  induction n using Nat.strongRecOn with
  | ind n ih =>
    intro s hn hs
    cases hf : firstFrom (fun p => isEnd (t.getD p 0)) (t.size - s) s with
    | none =>
      have hno := firstFrom_none hf
      have e : eolF (t.toList.drop s) = t.toList.drop s := by
        have := eolF_free (t.toList.drop s) [] (fun c hc => by
          obtain ⟨i, hi, rfl⟩ := List.mem_iff_getElem.mp hc
          have hi' : i < t.size - s := by simpa using hi
          have := hno (s + i) (by omega) (by omega)
          simpa [Array.getD, show s + i < t.size by omega] using this)
        have e0 : eolF [] = [] := rfl
        rw [List.append_nil, e0, List.append_nil] at this
        exact this
      rw [e]
      exact .done (by show find2 t s = none; unfold find2; rw [hf]; rfl)
    | some p =>
      obtain ⟨a, b, c, d⟩ := firstFrom_some hf
      have hp : p < t.size := by omega
      have hend := end2_le t p hp
      have h1 : eolF (t.toList.drop s) = (t.toList.drop s).take (p - s) ++ [13, 10] ++ eolF (t.toList.drop (end2 t p)) := by
        have e1 : t.toList.drop s = (t.toList.drop s).take (p - s) ++ t.toList.drop p := by
          rw [show t.toList.drop p = (t.toList.drop s).drop (p - s) by rw [List.drop_drop]; congr 1; omega, List.take_append_drop]
        conv => lhs; rw [e1]
        rw [eolF_free _ _ (fun x hx => by
          obtain ⟨i, hi, rfl⟩ := List.mem_iff_getElem.mp hx
          have hi' : i < p - s := by
            have := hi
            rw [List.length_take] at this
            omega
          have := d (s + i) (by omega) (by omega)
          simpa [Array.getD, show s + i < t.size by omega] using this), List.append_assoc]
        congr 1
        rw [getD_drop t p hp]
        have hc : t.getD p 0 = 10 ∨ t.getD p 0 = 13 := by
          unfold isEnd at c
          simpa using c
        rcases hc with h10 | h13
        · have he : end2 t p = p + 1 := by unfold end2; rw [if_neg (by omega)]
          rw [h10, he]
          rfl
        · rw [h13]
          by_cases hn : p + 1 < t.size ∧ t.getD (p + 1) 0 = 10
          · have he : end2 t p = p + 2 := by unfold end2; rw [if_pos ⟨h13, hn⟩]
            rw [he, getD_drop t (p + 1) hn.1, hn.2]
            rfl
          · have he : end2 t p = p + 1 := by unfold end2; rw [if_neg (fun h => hn h.2)]
            rw [he]
            show 13 :: 10 :: eolA true (t.toList.drop (p + 1)) = _
            rw [eolA_other _ (fun r' hr => ?_)]
            · rfl
            · exfalso
              apply hn
              have hlt : p + 1 < t.size := by
                apply Nat.lt_of_not_le
                intro hle
                rw [List.drop_eq_nil_of_le (by simpa using hle)] at hr
                cases hr
              rw [getD_drop t (p + 1) hlt] at hr
              exact ⟨hlt, (List.cons.inj hr).1⟩
      rw [h1]
      exact .next (p := p) (e := end2 t p) (by show find2 t s = _; unfold find2; rw [hf]; rfl) (ih (t.size - end2 t p) (by omega) _ rfl hend.2)

theorem bol_succ (t : Array Nat) (s : Nat) : bol t (s + 1) = (t.getD s 0 == 10) := by
  unfold bol
  simp
theorem sub1 (t : Array Nat) : ∀ (n s : Nat), n = t.size - s → s ≤ t.size → Subbed F1 t [46, 46] s (stuffF (bol t s) (t.toList.drop s)) := by
  intro n
  induction n using Nat.strongRecOn with
  | ind n ih =>
    intro s hn hs
    have free : ∀ k q, q = s + k → q ≤ t.size → (∀ p, s ≤ p → p < q → hit1 t p = false) → stuffF (bol t s) (t.toList.drop s) = (t.toList.drop s).take k ++ stuffF (bol t q) (t.toList.drop q) := by
      intro k
      induction k with
      | zero => intro q hq _ _; subst hq; rfl
      | succ k ihk =>
        intro q hq hqs hno
        have q' := ihk (s + k) rfl (by omega) fun p h1 h2 => hno p h1 (by omega)
        rw [q', getD_drop t (s + k) (by omega)]
        have hh := hno (s + k) (by omega) (by omega)
        unfold hit1 at hh
        show _ ++ ((if (bol t (s + k) && t.getD (s + k) 0 == 46) = true then _ else _) ++ stuffF (t.getD (s + k) 0 == 10) _) = _
        rw [hh, ← bol_succ]
        subst hq
        rw [List.take_succ_eq_append_getElem (by simp; omega)]
        simp [Array.getD, show s + k < t.size by omega]
        rfl
    cases hf : firstFrom (hit1 t) (t.size - s) s with
    | none =>
      have e := free (t.size - s) t.size (by omega) (Nat.le_refl _) fun p h1 h2 => firstFrom_none hf p h1 (by omega)
      have e0 : t.toList.drop t.size = [] := List.drop_eq_nil_of_le (by simp)
      rw [e0, List.take_of_length_le (by simp)] at e
      have e1 : ∀ b, stuffF b [] = [] := fun b => by cases b <;> rfl
      rw [e1, List.append_nil] at e
      rw [e]
      exact .done (by show find1 t s = none; unfold find1; rw [hf]; rfl)
    | some p =>
      obtain ⟨a, b, c, d⟩ := firstFrom_some hf
      have hp : p < t.size := by omega
      have e := free (p - s) p (by omega) (by omega) d
      rw [e, getD_drop t p hp]
      show Subbed F1 t [46, 46] s (_ ++ ((if (bol t p && t.getD p 0 == 46) = true then _ else _) ++ stuffF (t.getD p 0 == 10) _))
      unfold hit1 at c
      rw [c, ← bol_succ, if_pos rfl, ← List.append_assoc]
      exact .next (p := p) (e := p + 1) (by show find1 t s = _; unfold find1; rw [hf]; rfl) (ih (t.size - (p + 1)) (by omega) _ rfl (by omega))
theorem sub1_whole (t : Array Nat) : Subbed F1 t [46, 46] 0 (stuffF true t.toList) := sub1 t _ 0 rfl (Nat.zero_le _)
theorem sub2_whole (t : Array Nat) : Subbed F2 t [13, 10] 0 (eolF t.toList) := sub2 t _ 0 rfl (Nat.zero_le _)
end Mine
end
section
open PySem PySem.W PySem.Calls PyProof.Rows
namespace Mine
abbrev P₀ : Program := PySem.Challenge.rw_tx0002_01.row.prog
abbrev lo : List Str := [Str.ofString "COMPILER_FLAG_NAMES", Str.ofString "_twin_re_1", Str.ofString "_twin_re_2"]
end Mine
end
section
open PySem PySem.W PySem.Calls PyProof.Rows
namespace Mine
set_option maxRecDepth 100000

noncomputable def iterO (l : Addr) (i : Nat) : Obj := { cls := .type "list_iterator", data := .fields #[.ref l, rawInt i] }
noncomputable def iterE (i : Nat) : Obj := { cls := .type "list_iterator", data := .fields #[.none, rawInt i] }
section
variable {prog : Program} {w : World} {A : Around} {E : Value → Shared → Prop} {s : Shared} {h₀ : Heap} {L : Addr} {m : Str → Option Value} {news news' : List (Addr × Obj)}

theorem iter_list {l : Addr} {its : Array Value} {n : Nat} {Q : Value → Shared → Prop} (F : Fr h₀ L s.heap m) (N : News h₀ L s.heap news) (hl : (l, listOf its n) ∈ news)
    (h : ∀ (I : Addr) h', Fr h₀ L h' m → News h₀ L h' ((I, iterO l 0) :: news) → (∀ p ∈ news, p.1 < I) → Q (.ref I) { s with heap := h' }) :
    wpAny (model prog w) A (call (.builtin "iter") [.ref l]) Q E s := by
  refine call_function_entry (by decide +kernel) (by decide +kernel) kdk_entry_iter (kdk_args_iter _) ?_
  unfold Builtin.«iter»
  refine wpAny_bind (m := someArgs "iter" 1 2 _) (wpAny_of_eq (a := [Value.ref l]) (by first | rfl | kernel_rfl!) ?_)
  show wpAny _ _ (pyIter (.ref l) >>= _) _ _ _
  refine wpAny_bind (wpAny_pyIter_list ⟨_, (N _ hl).1, rfl, n, rfl⟩ ?_)
  exact wpAny_pure ⟨_, rfl, h _ _ (F.push _) (News.push F N _ rfl) (fun q hq => Heap.lt_size (N q hq).1)⟩

theorem upd_news {d : Addr} {o o' : Obj} {h h' : Heap} (U : Upd d o o' news news') (F : Fr h₀ L h m) (N : News h₀ L h news) (hs : Heap.SameBut d h h') (ho : h'.get? d = some o') : Fr h₀ L h' m ∧ News h₀ L h' news' := by
  obtain ⟨pre, post, rfl, rfl, a, b⟩ := U.split
  have z := N (d, o) (List.mem_append_right _ (.head _))
  exact ⟨F.change hs z.2.1 z.2.2, news_set N a b hs ho⟩

theorem next_item {it l : Addr} {i : Nat} {its : Array Value} {n : Nat} {x : Value} {Q : Value → Shared → Prop} (F : Fr h₀ L s.heap m) (N : News h₀ L s.heap news) (U : Upd it (iterO l i) (iterO l (i + 1)) news news') (hl : (l, listOf its n) ∈ news) (hx : its[i]? = some x)
    (h : ∀ h', Fr h₀ L h' m → News h₀ L h' news' → Q x { s with heap := h' }) :
    wpAny (model prog w) A (call (.builtin "next") [.ref it]) Q E s := by
  have hit : s.heap.get? it = some (iterO l i) := by
    obtain ⟨pre, post, rfl, rfl, a, b⟩ := U.split
    exact (N (it, iterO l i) (List.mem_append_right _ (.head _))).1
  have hI : s.heap.IsListIter it l i := ⟨_, hit, rfl, rfl⟩
  obtain ⟨o, ho, hc, hd⟩ := id hI
  refine call_function_entry (by decide +kernel) (by decide +kernel) kdk_entry_next (kdk_args_next _) ?_
  unfold Builtin.«next»
  refine wpAny_bind (m := someArgs "next" 1 2 _) (wpAny_of_eq (a := [Value.ref it]) (by first | rfl | kernel_rfl!) ?_)
  dsimp only
  refine wpAny_bind (wpAny_specialOf (name := Str.ofString "__next__") hI.typeIs slot_listiter_next.lookup ?_)
  refine wpAny_ite_split (fun hab => absurd hab (by decide)) (fun _ => ?_)
  refine wpAny_bind (wpAny_callSpecial?_slot (name := Str.ofString "__next__") hI.typeIs slot_listiter_next
    (wpAny_call_entry slot_listiter_next hI.typeIs entry_listiter_next ?_ (args_listiter_next _)))
  show wpAny _ _ (field (.ref it) 0 >>= _) _ _ s
  refine wpAny_bind (wpAny_field ho hd (x := .ref l) rfl ?_)
  show wpAny _ _ (if (Value.ref l == Value.none) = true then _ else _) _ _ s
  rw [if_neg (show ¬ ((Value.ref l == Value.none) = true) from Bool.false_ne_true)]
  show wpAny _ _ (field (.ref it) 1 >>= _) _ _ s
  refine wpAny_bind (wpAny_field ho hd (x := .int i 0) rfl ?_)
  show wpAny _ _ (seqItems? (.ref l) >>= _) _ _ s
  refine wpAny_bind (wpAny_seqItems (N _ hl).1 rfl ?_)
  simp only [Int.toNat_natCast, hx]
  refine wpAny_bind (wpAny_setField ho hd (by simp) (wpAny_pure ⟨x, rfl, wpAny_pure ⟨_, rfl, ?_⟩⟩))
  have hg : (s.heap.update it (Obj.mapFields (·.setIfInBounds 1 (rawInt ((i : Int) + 1))))).get? it = some (iterO l (i + 1)) := by
    rw [Heap.get?_update_self _ hit rfl]
    rfl
  obtain ⟨F', N'⟩ := upd_news U F N (Heap.SameBut.update ..) hg
  exact h _ F' N'

theorem next_end {it l : Addr} {i : Nat} {its : Array Value} {n : Nat} {Q : Value → Shared → Prop} (hh : A.handled = none) (F : Fr h₀ L s.heap m) (N : News h₀ L s.heap news) (U : Upd it (iterO l i) (iterE i) news news') (hl : (l, listOf its n) ∈ news) (hx : its[i]? = none)
    (h : ∀ h₁ h' e, Fr h₀ L h₁ m → News h₀ L h₁ news' → Heap.NewExc h₁ h' e "StopIteration" → E (.ref e) { s with heap := h' }) :
    wpAny (model prog w) A (call (.builtin "next") [.ref it]) Q E s := by
  have hit : s.heap.get? it = some (iterO l i) := by
    obtain ⟨pre, post, rfl, rfl, a, b⟩ := U.split
    exact (N (it, iterO l i) (List.mem_append_right _ (.head _))).1
  have hI : s.heap.IsListIter it l i := ⟨_, hit, rfl, rfl⟩
  obtain ⟨o, ho, hc, hd⟩ := id hI
  refine call_function_entry (by decide +kernel) (by decide +kernel) kdk_entry_next (kdk_args_next _) ?_
  unfold Builtin.«next»
  refine wpAny_bind (m := someArgs "next" 1 2 _) (wpAny_of_eq (a := [Value.ref it]) (by first | rfl | kernel_rfl!) ?_)
  dsimp only
  refine wpAny_bind (wpAny_specialOf (name := Str.ofString "__next__") hI.typeIs slot_listiter_next.lookup ?_)
  refine wpAny_ite_split (fun hab => absurd hab (by decide)) (fun _ => ?_)
  refine wpAny_bind (wpAny_callSpecial?_slot (name := Str.ofString "__next__") hI.typeIs slot_listiter_next
    (wpAny_call_entry slot_listiter_next hI.typeIs entry_listiter_next ?_ (args_listiter_next _)))
  show wpAny _ _ (field (.ref it) 0 >>= _) _ _ s
  refine wpAny_bind (wpAny_field ho hd (x := .ref l) rfl ?_)
  show wpAny _ _ (if (Value.ref l == Value.none) = true then _ else _) _ _ s
  rw [if_neg (show ¬ ((Value.ref l == Value.none) = true) from Bool.false_ne_true)]
  show wpAny _ _ (field (.ref it) 1 >>= _) _ _ s
  refine wpAny_bind (wpAny_field ho hd (x := .int i 0) rfl ?_)
  show wpAny _ _ (seqItems? (.ref l) >>= _) _ _ s
  refine wpAny_bind (wpAny_seqItems (N _ hl).1 rfl ?_)
  simp only [Int.toNat_natCast, hx]
  refine wpAny_bind (wpAny_rule (wpAny_bind (wpAny_setField ho hd (by simp) ?_)))
  show wpAny _ _ (newExc (.type "StopIteration") [] >>= _) _ _ _
  refine wpAny_bind ?_
  simp only [newExc, newTuple]
  refine wpAny_bind (wpAny_newObj_type ?_ (by size_fits))
  refine wpAny_bind (m := firstArgMember _ _) (wpAny_of_eq (a := Value.none) (by first | rfl | (simp only [firstArgMember]; rfl)) ?_)
  refine wpAny_newObj_type ?_ (by size_fits)
  simp only [raiseNew]
  refine wpAny_bind (wpAny_handled ?_)
  first | rw [show A.in1.handled = none from hh] | rw [hh]
  refine wpAny_bind (wpAny_pure (wpAny_throw ?_))
  have hg : (s.heap.update it (Obj.mapFields (·.setIfInBounds 0 .none))).get? it = some (iterE i) := by
    rw [Heap.get?_update_self _ hit rfl]
    rfl
  obtain ⟨F', N'⟩ := upd_news U F N (Heap.SameBut.update ..) hg
  refine h (s.heap.update it (Obj.mapFields (·.setIfInBounds 0 .none))) _ _ F' N' ⟨fun b o e => Heap.get?_push_of_some _ (Heap.get?_push_of_some _ e), Heap.get?_none_of_le ?_, ⟨_, _, Heap.get?_push_size _ rfl, rfl, rfl⟩⟩
  rw [Heap.size_push]
  exact Nat.le_succ _
end
end Mine
end
section
open PySem PySem.W PySem.Calls PyProof.Rows
namespace Mine
set_option maxRecDepth 100000
section
variable {prog : Program} {w : World} {A : Around} {E : Value → Shared → Prop} {s : Shared} {h₀ : Heap} {L : Addr} {m : Str → Option Value} {env : Env}

noncomputable def SrcS (prog : Program) (w : World) (A : Around) (h₀ : Heap) (L : Addr) (m : Str → Option Value) (env : Env) (elt : Expr) (x : Str) (scope : Scope) (cl : List (Str × Addr)) (Fin : Shared → List Value → List (Addr × Obj) → Prop) (xv : Value) (s₁ : Shared) : Prop :=
  ∃ y t news, xv = .str y t ∧ A.handled = none ∧ Fr h₀ L s₁.heap m ∧ News h₀ L s₁.heap news ∧ y.cps.size ≤ sizeLine ∧ y.cps.all (· < 128) = true ∧
    ∀ s₂ : Shared, (∃ h, s₂ = { s₁ with heap := h }) → LCg.CompRest prog w A h₀ L m env elt x scope cl s₂ (fun _ => True) (SignAt y) (Fin s₂) y.cps.size 0 [] news

theorem ListComp_S {elt iter : Expr} {x : Str} {px : Pos} {scope : Scope} {cl : List (Str × Addr)} {pos : Pos} {Q : Value → Shared → Prop} (F₀ : Fr h₀ L s.heap m)
    (hclos : closureFor scope env = pure cl) (hcell : ∀ y ∈ scope.names, y.2 ≠ .cell) (hkind : scope.kind = .function)
    (hnames : ∀ y ∈ scope.names, y.2 = .local → scope.names.lookup y.1 = some .local) (hx : scope.names.lookup x = some .local)
    (h : wpAny (model prog w) A (eval iter env) (SrcS prog w A h₀ L m env elt x scope cl (fun s₂ => LCg.FinE h₀ L m s₂ Q)) E s)
    (hs : ∀ x, foldedSetIterable iter env x = pure x := by intro _; rfl) :
    wpAny (model prog w) A (eval (.ListComp elt [⟨.Name x px, iter, [], 0⟩] scope pos) env) Q E s := by
  rw [eval_ListComp]
  refine wpAny_comprehension_free (use := none) rfl hs hclos hkind hnames (wpAny_mono h (fun xv s₁ h₁ => ?_) fun _ _ e => e)
  obtain ⟨y, t, news, rfl, hh, F, N, hsz, ha, R⟩ := h₁
  refine wpAny_pyIter_ascii ha ?_
  refine LCg.block_U (Walks.strAscii hh s₁.heap.objs.size y t) hsz (fun i h st => by obtain ⟨o, e, _⟩ := st; exact ⟨o, e⟩)
    (fun i h h' o nw st e e' _ _ _ => by obtain ⟨o', q, r⟩ := st; rw [e] at q; cases q; exact ⟨o, e', r⟩) hcell hkind hx ⟨_, Heap.get?_push_size _ rfl, rfl, rfl⟩ (fun b hb => ?_)
    (F.keeps fun _ _ e => Heap.get?_push_of_some _ e) (N.grown fun _ _ e => Heap.get?_push_of_some _ e) (Nat.ne_of_lt F.ns.lt) (next_is_new F) (fun p hp => Nat.ne_of_lt (Heap.lt_size (N p hp).1)) trivial (R _ ⟨_, rfl⟩) ?_
  · rw [List.mem_singleton.mp hb]
    show s₁.heap.objs.size < (s₁.heap.push _).objs.size
    rw [Heap.size_push]; exact Nat.lt_succ_self _
  · intro D C h tk m' ys news' F' N' o1 hn hC₀ hD₀ hCL hDL hCD offC fin
    refine ⟨m', hn, fun h'' hs'' => fin D h'' tk (F'.change hs'' hCL hC₀) (fun p hp => ?_) o1⟩
    refine ⟨hs''.extBut _ _ ?_ (N' p hp).1, (N' p hp).2⟩
    rcases List.mem_cons.mp hp with rfl | hp
    · exact Ne.symm hCD
    · exact offC p hp

/-- every turn makes one value of its own and leaves the heap as it was -/
theorem rest_map {elt : Expr} {x : Str} {scope : Scope} {cl : List (Str × Addr)} {P : Nat → Value → Prop} {S : List (Addr × Obj) → Prop} {Fin : List Value → List (Addr × Obj) → Prop} {G : Nat → Value → Prop} {news : List (Addr × Obj)} (hS : S news) (n : Nat)
    (turn : ∀ i v I oI C oC D m₂ h tk ys (E' : Value → Shared → Prop), P i v → LCg.NsObj oC m₂ → m₂ x = some v → Fr h₀ L h m → News h₀ L h ((I, oI) :: (C, oC) :: (D, LCg.lst ys) :: news) →
      wpAny (model prog w) A (eval elt (compEnvC scope cl C env)) (fun y s₂ => G i y ∧ ∃ h' tk', s₂ = { s with heap := h', toks := tk' } ∧ Fr h₀ L h' m ∧ News h₀ L h' ((I, oI) :: (C, oC) :: (D, LCg.lst ys) :: news)) E' { s with heap := h, toks := tk })
    (fin : ∀ ys : List Value, ys.length = n → (∀ j, (hj : j < ys.length) → G j ys[j]) → Fin ys news) :
    ∀ k i ys, i + k = n → ys.length = i → (∀ j, (hj : j < ys.length) → G j ys[j]) → LCg.CompRest prog w A h₀ L m env elt x scope cl s S P Fin k i ys news := by
  intro k
  induction k with
  | zero =>
    intro i ys hk hl hg
    exact fin ys (by omega) hg
  | succ k ih =>
    intro i ys hk hl hg
    refine LCg.CompRest.succ fun v I oI C oC D m₂ h tk E' hP hC hx F N off ne => ?_
    refine wpAny_mono (turn i v I oI C oC D m₂ h tk ys E' hP hC hx F N) (fun y s₂ h₂ => ?_) fun _ _ e => e
    obtain ⟨hG, h', tk', rfl, F', N'⟩ := h₂
    refine LCg.CompEnd.intro F' N' news (fun p hp => hp) off hS ?_
    refine ih (i + 1) (ys ++ [y]) (by omega) (by simp [hl]) fun j hj => ?_
    rw [List.getElem_append]
    split
    · rename_i hlt; exact hg j hlt
    · rename_i hlt
      have : j = i := by simp at hj; omega
      subst this
      simpa using hG
end

theorem intsAre_of {codes : List Nat} : ∀ {ys : List Value}, ys.length = codes.length → (∀ j, (hj : j < ys.length) → ∃ t c, codes[j]? = some c ∧ ys[j] = .int (c : Int) t) → IntsAre ys (codes.map Int.ofNat) := by
  induction codes with
  | nil => intro ys hl _; cases ys with
    | nil => exact .nil
    | cons => cases hl
  | cons c r ih =>
    intro ys hl h
    cases ys with
    | nil => cases hl
    | cons y ys =>
      obtain ⟨t, c', hc, hy⟩ := h 0 (by simp)
      simp at hc hy
      subst hc hy
      exact .cons _ _ (ih (by simpa using hl) fun j hj => by
        have := h (j + 1) (by simp; omega)
        simpa using this)
/-- stops the walk at a goal -/
noncomputable def Opq (P : Prop) : Prop := P
theorem rest_filter {prog : Program} {w : World} {A : Around} {s : Shared} {h₀ : Heap} {L : Addr} {m : Str → Option Value} {env : Env} {ct elt : Expr} {x : Str} {scope : Scope} {cl : List (Str × Addr)} {P : Nat → Value → Prop} {S : List (Addr × Obj) → Prop} {Fin : List Value → List (Addr × Obj) → Prop} {J : Nat → List Value → Prop} {news : List (Addr × Obj)} (hS : S news) (n : Nat)
    (turn : ∀ i v I oI C oC D m₂ h tk ys (E' : Value → Shared → Prop), i < n → P i v → J i ys → LCg.NsObj oC m₂ → m₂ x = some v → Fr h₀ L h m → News h₀ L h ((I, oI) :: (C, oC) :: (D, LCg.lst ys) :: news) →
      wpAny (model prog w) A (isTrue ct (compEnvC scope cl C env) (eval ct (compEnvC scope cl C env))) (fun ok s' => if ok = true then
          ∀ E'', wpAny (model prog w) A (eval elt (compEnvC scope cl C env)) (fun y s₂ => Opq (J (i + 1) (ys ++ [y]) ∧ ∃ h' tk', s₂ = { s with heap := h', toks := tk' } ∧ Fr h₀ L h' m ∧ News h₀ L h' ((I, oI) :: (C, oC) :: (D, LCg.lst ys) :: news))) E'' s'
        else Opq (J (i + 1) ys ∧ ∃ h' tk', s' = { s with heap := h', toks := tk' } ∧ Fr h₀ L h' m ∧ News h₀ L h' ((I, oI) :: (C, oC) :: (D, LCg.lst ys) :: news))) E' { s with heap := h, toks := tk })
    (fin : ∀ ys : List Value, J n ys → Fin ys news) :
    ∀ k i ys, i + k = n → J i ys → LCt.CompRestT prog w A h₀ L m env ct elt x scope cl s S P Fin k i ys news := by
  intro k
  induction k with
  | zero =>
    intro i ys hk hJ
    have : i = n := by omega
    exact fin ys (this ▸ hJ)
  | succ k ih =>
    intro i ys hk hJ
    refine LCt.CompRestT.succ fun v I oI C oC D m₂ h tk E' hP hC hx F N off ne => ?_
    refine wpAny_mono (turn i v I oI C oC D m₂ h tk ys E' (by omega) hP hJ hC hx F N) (fun ok s' h₂ => ?_) fun _ _ e => e
    cases ok with
    | false =>
      simp only [Bool.false_eq_true, if_false] at h₂ ⊢
      obtain ⟨hG, h', tk', rfl, F', N'⟩ := h₂
      exact LCg.CompEnd.intro F' N' news (fun p hp => hp) off hS (ih (i + 1) ys (by omega) hG)
    | true =>
      simp only [if_true] at h₂ ⊢
      refine wpAny_mono (h₂ _) (fun y s₂ h₃ => ?_) fun _ _ e => e
      obtain ⟨hG, h', tk', rfl, F', N'⟩ := h₃
      exact LCg.CompEnd.intro F' N' news (fun p hp => hp) off hS (ih (i + 1) (ys ++ [y]) (by omega) hG)
end Mine
end
section
open PySem PySem.W PySem.Calls PyProof.Rows PySem.Spec
namespace Mine
set_option maxRecDepth 100000
noncomputable def Mark (P : Prop) : Prop := P
theorem Mark.out {P : Prop} (h : Mark P) : P := h
theorem fr_set {h₀ h : Heap} {L : Addr} {m : Str → Option Value} {x : Str} {v : Value} (F : Fr h₀ L h m) (e : m x = some v) : Fr h₀ L h (fun y => if y = x then some v else m y) := by
  have : (fun y => if y = x then some v else m y) = m := by
    funext y
    by_cases h : y = x
    · subst h; rw [if_pos rfl, e]
    · rw [if_neg h]
  rw [this]; exact F
theorem use_loop {W : Nat → Shared → Prop} {s₀ : Shared} (J : Shared → Prop) (hJ : J s₀) (step : ∀ s, J s → W 0 s) : W 0 s₀ := step s₀ hJ
theorem use_for {W : Shared → Prop} {s₀ : Shared} (J : Shared → Prop) (hJ : J s₀) (step : ∀ s, J s → W s) : W s₀ := step s₀ hJ
theorem allLt_mem {d : Addr} : ∀ {l : List (Addr × Obj)}, AllLt d l → ∀ p ∈ l, p.1 < d
  | [], _, _, h => nomatch h
  | _ :: _, h, p, hp => by
    rcases List.mem_cons.mp hp with rfl | hp
    · exact h.1
    · exact allLt_mem h.2 p hp
theorem off1_mem {d : Addr} : ∀ {l : List (Addr × Obj)}, LCg.Off1 d l → ∀ p ∈ l, p.1 ≠ d
  | [], _, _, h => nomatch h
  | _ :: _, h, p, hp => by
    rcases List.mem_cons.mp hp with rfl | hp
    · exact h.1
    · exact off1_mem h.2 p hp
theorem off_cons {a : Addr} {o : Obj} {b : Addr} {T : List (Addr × Obj)} (h : @LT.lt Nat _ b a) (ho : ∀ p ∈ T, p.1 ≠ b) : ∀ p ∈ (a, o) :: T, p.1 ≠ b := fun p hp => by
  rcases List.mem_cons.mp hp with rfl | hp
  · exact Nat.ne_of_gt h
  · exact ho p hp

section
variable {prog : Program} {w : World} {A : Around} {E : Value → Shared → Prop} {s : Shared} {h₀ : Heap} {L : Addr} {m : Str → Option Value} {news : List (Addr × Obj)} {env : Env} {target iter : Expr} {body orelse : List Stmt} {Q : Flow → Shared → Prop}

noncomputable def ForRest (prog : Program) (w : World) (A : Around) (E : Value → Shared → Prop) (env : Env) (target : Expr) (it : Value) (body orelse : List Stmt) (Q : Flow → Shared → Prop) (s : Shared) : Prop :=
  codeAny (model prog w) A (.forLoop target it body orelse env) (fun r s' => match r with | .ok f => Q f s' | .error e => cameBackBy (model prog w) A env E e s') s
noncomputable def ForPost (prog : Program) (w : World) (A : Around) (E : Value → Shared → Prop) (env : Env) (target : Expr) (it : Value) (body orelse : List Stmt) (Q : Flow → Shared → Prop) (f : Flow) (s : Shared) : Prop :=
  match f with
  | .next => ForRest prog w A E env target it body orelse Q s
  | .cont => ForRest prog w A E env target it body orelse Q s
  | .brk => Q .next s
  | .ret v => Q (.ret v) s
noncomputable def ForIt (prog : Program) (w : World) (A : Around) (E : Value → Shared → Prop) (env : Env) (target : Expr) (body orelse : List Stmt) (Q : Flow → Shared → Prop) (it : Value) (s : Shared) : Prop := ForRest prog w A E env target it body orelse Q s

theorem for_go {pos : Pos} (h : wpAny (model prog w) A (eval iter env) (fun x s₁ => wpAny (model prog w) A (pyIter x) (ForIt prog w A E env target body orelse Q) E s₁) E s)
    (hs : ∀ x, foldedSetIterable iter env x = pure x := by intro _; rfl) : wpAny (model prog w) A (exec (.For target iter body orelse pos) env) Q E s :=
  wpAny_For (wpAny_mono h (fun _ _ h₁ => wpAny_mono h₁ (fun _ _ h₂ => h₂) fun _ _ e => e) fun _ _ e => e) hs

theorem for_turn {x : Str} {px : Pos} {it : Value} (hE : PassesOwn (model prog w) A env E)
    (h : wpAny (model prog w) A (pyNext it) (fun r s₁ => match r with
      | none => wpAny (model prog w) A (execs orelse env) Q E s₁
      | some v => wpAny (model prog w) A (assign (.Name x px) env v) (fun _ s₂ => wpAny (model prog w) A (execs body env) (ForPost prog w A E env (.Name x px) it body orelse Q) E s₂) E s₁) E s) :
    ForRest prog w A E env (.Name x px) it body orelse Q s := by
  refine codeAny_of_tree ?_
  show wpAny _ A ((forTurn (.Name x px) it body orelse env).onRaise (fun x => do noteFrame x env; theTreesLotGoes x)) _ _ s
  refine wpAny_noted ?_
  simp only [forTurn]
  refine wpAny_bind (wpAny_standAt (wpAny_bind (wpAny_onRaise (wpAny_mono h (fun r s₁ h₁ => ?_) fun e s' h' => wpAny_standAt (hE e s' h')))))
  cases r with
  | none => exact wpAny_pure ⟨rfl, codeAny_block (wpAny_mono h₁ (fun _ _ x => x) hE)⟩
  | some v =>
    refine wpAny_bind (wpAny_pure ?_)
    refine wpAny_bind (wpAny_mono h₁ (fun _ s₂ h₂ => wpAny_bind (wpAny_mono h₂ (fun f s₃ h₃ => ?_) hE)) hE)
    cases f with
    | next => exact wpAny_pure ⟨rfl, h₃⟩
    | cont => exact wpAny_pure ⟨rfl, h₃⟩
    | brk => exact wpAny_pure h₃
    | ret v => exact wpAny_pure h₃

noncomputable def IterAt (oI : Obj) (l : Addr) (i : Nat) : Prop := oI.cls = .type "list_iterator" ∧ oI.data = .fields #[.ref l, .int i 0]

theorem for_item {x : Str} {px : Pos} {I l : Addr} {oI : Obj} {i n : Nat} {its : Array Value} {v : Value} (hE : PassesOwn (model prog w) A env E) (F : Fr h₀ L s.heap m) (N : News h₀ L s.heap ((I, oI) :: news)) (hI : IterAt oI l i) (off : ∀ p ∈ news, p.1 ≠ I)
    (hl : (l, listOf its n) ∈ news) (hx : its[i]? = some v)
    (h : ∀ h' oI', IterAt oI' l (i + 1) → Fr h₀ L h' m → News h₀ L h' ((I, oI') :: news) →
      wpAny (model prog w) A (assign (.Name x px) env v) (fun _ s₂ => wpAny (model prog w) A (execs body env) (ForPost prog w A E env (.Name x px) (.ref I) body orelse Q) E s₂) E { s with heap := h' }) :
    ForRest prog w A E env (.Name x px) (.ref I) body orelse Q s := by
  have z := N (I, oI) (.head _)
  refine for_turn hE (wpAny_pyNext_list_item ⟨oI, z.1, hI.1, hI.2⟩ ⟨_, (N _ (List.mem_cons_of_mem _ hl)).1, rfl, n, rfl⟩ hx fun h' hi hs => ?_)
  obtain ⟨oI', h1, h2, h3⟩ := hi
  refine h h' oI' ⟨h2, h3⟩ (F.change hs z.2.1 z.2.2) fun p hp => ?_
  rcases List.mem_cons.mp hp with rfl | hp
  · exact ⟨h1, z.2⟩
  · exact ⟨(hs.2 _ (off p hp)).trans (N p (List.mem_cons_of_mem _ hp)).1, (N p (List.mem_cons_of_mem _ hp)).2⟩
theorem for_end {x : Str} {px : Pos} {I l : Addr} {oI : Obj} {i n : Nat} {its : Array Value} (hE : PassesOwn (model prog w) A env E) (hh : A.handled = none) (F : Fr h₀ L s.heap m) (N : News h₀ L s.heap ((I, oI) :: news)) (hI : IterAt oI l i) (off : ∀ p ∈ news, p.1 ≠ I)
    (hl : (l, listOf its n) ∈ news) (hx : its[i]? = none)
    (h : ∀ h', Fr h₀ L h' m → News h₀ L h' news → wpAny (model prog w) A (execs orelse env) Q E { s with heap := h' }) :
    ForRest prog w A E env (.Name x px) (.ref I) body orelse Q s := by
  have z := N (I, oI) (.head _)
  refine for_turn hE (wpAny_pyNext_list_end hh ⟨oI, z.1, hI.1, hI.2⟩ ⟨_, (N _ (List.mem_cons_of_mem _ hl)).1, rfl, n, rfl⟩ hx fun h' hs => ?_)
  refine h h' (LCg.fr_but F (fun b o hb e => hs b o (fun q => hb (by rw [q]; exact List.mem_singleton.mpr rfl)) e) (Ne.symm z.2.1) z.2.2) fun p hp => ?_
  exact ⟨hs _ _ (off p hp) (N p (List.mem_cons_of_mem _ hp)).1, (N p (List.mem_cons_of_mem _ hp)).2⟩
theorem for_list {l : Addr} {n : Nat} {its : Array Value} (F : Fr h₀ L s.heap m) (N : News h₀ L s.heap news) (hl : (l, listOf its n) ∈ news)
    (h : ∀ I oI h', IterAt oI l 0 → Fr h₀ L h' m → News h₀ L h' ((I, oI) :: news) → (∀ p ∈ news, p.1 < I) → ForIt prog w A E env target body orelse Q (.ref I) { s with heap := h' }) :
    wpAny (model prog w) A (pyIter (.ref l)) (ForIt prog w A E env target body orelse Q) E s :=
  wpAny_pyIter_list ⟨_, (N _ hl).1, rfl, n, rfl⟩ (h _ _ _ ⟨rfl, rfl⟩ (F.push _) (News.push F N _ rfl) fun p hp => Heap.lt_size (N p hp).1)

noncomputable def rangeO (x left : Int) : Obj := { cls := .type "range_iterator", dict := none, data := .fields #[rawInt x, rawInt left, rawInt 1], slots := #[] }
theorem forr_item {x : Str} {px : Pos} {I : Addr} {a left : Int} (hE : PassesOwn (model prog w) A env E) (F : Fr h₀ L s.heap m) (N : News h₀ L s.heap ((I, rangeO a left) :: news)) (off : ∀ p ∈ news, p.1 ≠ I) (hl : 0 < left)
    (h : ∀ h', Fr h₀ L h' m → News h₀ L h' ((I, rangeO (a + 1) (left - 1)) :: news) →
      wpAny (model prog w) A (assign (.Name x px) env (.int a s.toks)) (fun _ s₂ => wpAny (model prog w) A (execs body env) (ForPost prog w A E env (.Name x px) (.ref I) body orelse Q) E s₂) E { s with heap := h', toks := s.toks + 1 }) :
    ForRest prog w A E env (.Name x px) (.ref I) body orelse Q s := by
  have z := N (I, rangeO a left) (.head _)
  refine for_turn hE (wpAny_pyNext_range_item (step := 1) z.1 hl fun h' hi hs => ?_)
  refine h h' (F.change hs z.2.1 z.2.2) fun p hp => ?_
  rcases List.mem_cons.mp hp with rfl | hp
  · exact ⟨hi, z.2⟩
  · exact ⟨(hs.2 _ (off p hp)).trans (N p (List.mem_cons_of_mem _ hp)).1, (N p (List.mem_cons_of_mem _ hp)).2⟩
theorem forr_end {x : Str} {px : Pos} {I : Addr} {a left : Int} (hE : PassesOwn (model prog w) A env E) (hh : A.handled = none) (F : Fr h₀ L s.heap m) (N : News h₀ L s.heap ((I, rangeO a left) :: news)) (off : ∀ p ∈ news, p.1 ≠ I) (hl : left ≤ 0)
    (h : ∀ h', Fr h₀ L h' m → News h₀ L h' news → wpAny (model prog w) A (execs orelse env) Q E { s with heap := h' }) :
    ForRest prog w A E env (.Name x px) (.ref I) body orelse Q s := by
  have z := N (I, rangeO a left) (.head _)
  refine for_turn hE (wpAny_pyNext_range_end (step := 1) hh z.1 hl fun h' hs => ?_)
  refine h h' (LCg.fr_but F (fun b o hb e => hs b o (fun q => hb (by rw [q]; exact List.mem_singleton.mpr rfl)) e) (Ne.symm z.2.1) z.2.2) fun p hp => ?_
  exact ⟨hs _ _ (off p hp) (N p (List.mem_cons_of_mem _ hp)).1, (N p (List.mem_cons_of_mem _ hp)).2⟩
theorem for_range {r : Addr} {a b : Int} {t u v : Tok} (F : Fr h₀ L s.heap m) (N : News h₀ L s.heap news) (hr : IsRange s.heap r a b 1 t u v) (hsm : Builtin.Range.small a b 1 = true)
    (h : ∀ I h', Fr h₀ L h' m → News h₀ L h' ((I, rangeO a (Builtin.Range.rangeSize a b 1)) :: news) → (∀ p ∈ news, p.1 < I) → ForIt prog w A E env target body orelse Q (.ref I) { s with heap := h' }) :
    wpAny (model prog w) A (pyIter (.ref r)) (ForIt prog w A E env target body orelse Q) E s :=
  wpAny_pyIter_range hr hsm (h _ _ (F.push _) (News.push F N _ rfl) fun p hp => Heap.lt_size (N p hp).1)
end
end Mine
end
section
open PySem PySem.W PySem.Calls PyProof.Rows PySem.Spec
namespace Mine
set_option maxRecDepth 100000
theorem updF_to {d : Addr} {o o' : Obj} {news : List (Addr × Obj)} {g : Obj → List (Addr × Obj)} (U : UpdF d o news g) : Upd d o o' news (g o') := by
  induction U with
  | head h => exact .head h
  | tail h _ ih => exact .tail h ih
theorem kf_ints_of {vs : List Value} {ns : List Int} (h : IntsAre vs ns) : kf_ints vs = true := by
  induction h with
  | nil => rfl
  | cons n t _ ih => exact ih
/-- the first place of p -/
theorem kf_at_of {p : Int} {vs : List Value} {ns : List Int} (h : IntsAre vs ns) (hin : ns.any (· == p) = true) : ∃ j, kf_at p vs = some j ∧ j < ns.length ∧ ns[j]? = some p ∧ ns.idxOf p = j ∧ ∃ q, ki_delL vs j = some q ∧ IntsAre q (ns.erase p) := by
  induction h with
  | nil => cases hin
  | @cons n t vs ns h ih =>
    by_cases hp : n = p
    · subst hp
      refine ⟨0, ?_, Nat.zero_lt_succ _, rfl, by simp, vs, rfl, by simpa using h⟩
      unfold kf_at
      rw [show isInt n (.int n t) = true from beq_self_eq_true n]
      rfl
    · have hb : (n == p) = false := beq_eq_false_iff_ne.mpr hp
      rw [List.any_cons, hb, Bool.false_or] at hin
      obtain ⟨j, h1, h2, h3, h4, q, h5, h6⟩ := ih hin
      refine ⟨j + 1, ?_, Nat.succ_lt_succ h2, by simpa using h3, ?_, .int n t :: q, ?_, ?_⟩
      · unfold kf_at
        rw [show isInt p (.int n t) = false from hb, h1]
        rfl
      · rw [List.idxOf_cons, hb]
        simp [h4]
      · unfold ki_delL
        rw [h5]
      · rw [List.erase_cons, hb]
        exact .cons _ _ h6
section
variable {prog : Program} {w : World} {A : Around} {E : Value → Shared → Prop} {s : Shared} {h₀ : Heap} {L D : Addr} {m : Str → Option Value} {news : List (Addr × Obj)} {n : Nat} {vs : List Value} {ns : List Int} {Q : Value → Shared → Prop} {g : Obj → List (Addr × Obj)}
theorem in_led {k : Int} {t : Tok} (N : News h₀ L s.heap news) (hm : (D, listOf vs.toArray n) ∈ news) (hi : IntsAre vs ns) (h : Q (.bool (ns.any (· == k))) s) : wpAny (model prog w) A (compareOp .In (.int k t) (.ref D)) Q E s :=
  kf_in N hm (kf_ints_of hi) (any_isInt k hi) h
theorem notin_led {k : Int} {t : Tok} (N : News h₀ L s.heap news) (hm : (D, listOf vs.toArray n) ∈ news) (hi : IntsAre vs ns) (h : Q (.bool (!ns.any (· == k))) s) : wpAny (model prog w) A (compareOp .NotIn (.int k t) (.ref D)) Q E s :=
  kf_notin N hm (kf_ints_of hi) (by rw [show vs.toArray.toList = vs from rfl, any_isInt k hi]) h
theorem index_led {k : Int} {t : Tok} (N : News h₀ L s.heap news) (hm : (D, listOf vs.toArray n) ∈ news) (hi : IntsAre vs ns) (hin : ns.any (· == k) = true) (hz : ns.length ≤ 1000)
    (h : Q (.int (ns.idxOf k : Nat) s.toks) { s with toks := s.toks + 1 }) : wpAny (model prog w) A (call (.builtin "list.index") [.ref D, .int k t]) Q E s := by
  obtain ⟨j, h1, h2, h3, h4, _⟩ := kf_at_of hi hin
  refine kf_index N hm (kf_ints_of hi) h1 rfl ?_ (h4 ▸ h)
  rw [sizeLine_eq]
  show vs.length ≤ _
  rw [hi.length]
  omega
theorem remove_led {k : Int} {t : Tok} (F : Fr h₀ L s.heap m) (N : News h₀ L s.heap news) (U : UpdF D (listOf vs.toArray n) news g) (hi : IntsAre vs ns) (hin : ns.any (· == k) = true) (hz : ns.length ≤ 1000)
    (h : ∀ q h', IntsAre q (ns.erase k) → q.length ≤ 1000 → Fr h₀ L h' m → News h₀ L h' (g (listOf q.toArray (n + 1))) → Q .none { s with heap := h' }) : wpAny (model prog w) A (call (.builtin "list.remove") [.ref D, .int k t]) Q E s := by
  obtain ⟨j, h1, h2, h3, h4, q, h5, h6⟩ := kf_at_of hi hin
  refine kf_remove F N (kf_ints_of hi) h1 h5 (updF_to U) ?_ fun h' F' N' => h q h' h6 (by rw [h6.length]; exact Nat.le_trans (List.length_erase_le) hz) F' N'
  rw [sizeLine_eq]
  show vs.length ≤ _
  rw [hi.length]
  omega
theorem pop0_led {u : Tok} (F : Fr h₀ L s.heap m) (N : News h₀ L s.heap news) (U : UpdF D (listOf vs.toArray n) news g) (hi : IntsAre vs ns) (hne : 0 < ns.length) (hz : ns.length ≤ 1000)
    (h : ∀ y q h', IntsAre q ns.tail → q.length ≤ 1000 → Fr h₀ L h' m → News h₀ L h' (g (listOf q.toArray (n + 1))) → Q y { s with heap := h' }) : wpAny (model prog w) A (call (.builtin "list.pop") [.ref D, .int 0 u]) Q E s := by
  cases hi with
  | nil => cases hne
  | @cons x t vs ns hi =>
    refine kl_popAt (k := 0) (p := []) (q := vs) (y := .int x t) F N (by decide +kernel) (by
      unfold seqIndex?
      simp) rfl (updF_to U) ?_ fun h' F' N' => h _ vs h' hi (by rw [hi.length]; simp at hz; omega) F' N'
    rw [sizeLine_eq]
    show vs.length + 1 ≤ _
    rw [hi.length]
    simp at hz
    omega
theorem len_led (N : News h₀ L s.heap news) (hm : (D, listOf vs.toArray n) ∈ news) (hz : vs.length ≤ 1000)
    (h : Q (.int (vs.length : Nat) (s.toks + 1)) { s with toks := s.toks + 1 + 1 }) : wpAny (model prog w) A (call (.builtin "len") [.ref D]) Q E s :=
  call_len_list ⟨_, (N _ hm).1, rfl, n, rfl⟩ (by rw [List.size_toArray]; omega) (by rw [List.size_toArray]; exact h)
end
end Mine
end
section
open PySem PySem.W PySem.Calls PyProof.Rows PySem.Spec
set_option pp.deepTerms false
set_option pp.deepTerms.threshold 8
set_option pp.proofs false
namespace Mine
set_option maxRecDepth 100000
noncomputable def cacheStep (size : Int) (st : List Int × List Bool) (p : Int) : List Int × List Bool :=
  ((if st.1.any (· == p) then st.1.erase p else if (st.1.length : Int) = size then st.1.tail else st.1) ++ [p], st.2 ++ [st.1.any (· == p)])
noncomputable def cacheF (size : Int) (ps : List Int) : List Int × List Bool := ps.foldl (cacheStep size) ([], [])

theorem cacheF_succ (size : Int) (ns : List Int) (i : Nat) (h : i < ns.length) : cacheF size (ns.take (i + 1)) = cacheStep size (cacheF size (ns.take i)) ns[i] := by
  unfold cacheF
  rw [List.take_succ_eq_append_getElem h, List.foldl_append]
  rfl
local macro_rules | `(tactic| k_all) => `(tactic| assumption)
local macro_rules | `(tactic| k_mem) => `(tactic| assumption)
local macro_rules | `(tactic| k_room) => `(tactic| ktr_room)

set_option maxHeartbeats 2000000 in
theorem cache_c {w : World} {pv : Program} {lv : List Str} {mean : ExcName → Option Value} {mg mb : Str → Option Value} (dp un : Nat) (gd : Option (List Code)) (cn : Str) (cs : Scope) (a : Addr) (ccd : Value) (cl : List (Str × Addr)) (outer : List Env) (A₀ : Around) (base h₀ : Heap) (L : Addr) (m : Str → Option Value) (news : List (Addr × Obj)) (s : Shared) (Q E : Value → Shared → Prop)
   (B : Below A₀ base outer h₀) (F : Fr h₀ L s.heap m) (X : (Mine.hd.heap_39 w.params).In h₀) (N : News h₀ L s.heap news) (T : Top pv lv mean mg mb h₀) (hk : cs.kind = .function) (hdp : dp + 3 < recursionLimit) (hu : un + 24 < cLine)
   (la : Addr) (vs : List Value) (ns : List Int) (nn : Nat) (size : Int) (t : Tok) (hla : (la, listOf vs.toArray nn) ∈ news) (hvs : IntsAre vs ns) (hlen : ns.length ≤ 100) (hs1 : 1 ≤ size) (hs2 : size ≤ 4)
   (hret : ∀ (D H K : Addr) (hv kv : List Value) (nh nk : Nat) h' tk', Fr h₀ L h' m → News h₀ L h' ((D, ({ cls := .type "tuple", data := .seq #[.ref H, .ref K] } : Obj)) :: (H, listOf hv.toArray nh) :: (K, listOf kv.toArray nk) :: news) → (∀ p ∈ news, p.1 < K) → @LT.lt Nat _ K H → @LT.lt Nat _ H D → hv = (cacheF size ns).2.map .bool → IntsAre kv (cacheF size ns).1 →
     Q (.ref D) { s with heap := h', toks := tk' }) :
   wpAny (model P₀ w) (ktrTop dp un gd cn cs L a ccd cl outer) (call (.ref 82) [.ref la, .int size t]) Q E s := by
  w_top off
  k_with_none
  k_with "call builtin:list.remove" => (k_here; k_dflt (refine' remove_led ?Fk9 ?Nk9 ?Uk9 ?ik9 ?hk9 ?zk9 ?_; (case Fk9 => k_asm); (case Nk9 => k_asm); (case Uk9 => k_updF); (case ik9 => assumption); (case hk9 => assumption); (case zk9 => omega)); walk_at "w1")
  k_with "call builtin:list.pop" => (k_here; k_dflt (refine' pop0_led ?Fk9 ?Nk9 ?Uk9 ?ik9 ?hk9 ?zk9 ?_; (case Fk9 => k_asm); (case Nk9 => k_asm); (case Uk9 => k_updF); (case ik9 => assumption); (case zk9 => omega); (case hk9 => omega)); walk_at "w2")
  k_with "call builtin:len" => (k_here; k_dflt (refine' len_led ?Nk9 ?mk9 ?zk9 ?_; (case Nk9 => k_asm); (case mk9 => k_mem); (case zk9 => omega)))
  k_with "exec For Name Name cons nil" => (k_here; with_unfolding_all refine for_go ?_ (by intro _; rfl))
  k_with "pyIter ref" => (k_here; k_dflt (refine' for_list ?Fk9 ?Nk9 ?lk9 ?_; (case Fk9 => k_asm); (case Nk9 => k_asm); (case lk9 => first | assumption | k_mem)); walk_at "w3")
  k_with "ForIt" => (refine Mark.out ?_)
  k_with "ForPost" => (unfold ForPost; dsimp only)
  k_with "ForRest" => (refine Mark.out ?_)
  refine wpAny_call ?_
  k_dflt cell_enter
  k_steps
  unfold Mark ForIt
  rename_i g' L' hx0 FG' B' X' T' tkA Hd hx1 lA hx2 Ht hx3 lB hx4 Fy Ny I oI hx5 hI Fz Nz l2
  refine use_for (fun σ => ∃ (k i : Nat) (h : Heap) (tk1 : Nat) (m₁ : Str → Option Value) (held hits : List Value) (nk nh : Nat) (oI : Obj),
    σ = { s with heap := h, toks := tk1 } ∧ i + k = ns.length ∧ m₁ (Str.ofString "held") = some (.ref Hd) ∧ m₁ (Str.ofString "hits") = some (.ref Ht) ∧ m₁ (Str.ofString "size") = some (.int size t) ∧
    Fr g' L' h m₁ ∧ News g' L' h ((I, oI) :: (Ht, listOf hits.toArray nh) :: (Hd, listOf held.toArray nk) :: news) ∧ IterAt oI la i ∧ IntsAre held (cacheF size (ns.take i)).1 ∧ hits = (cacheF size (ns.take i)).2.map .bool ∧ held.length ≤ i ∧ hits.length = i) ?_ ?_
  · exact ⟨ns.length, 0, _, _, _, [], [], 0, 0, oI, rfl, Nat.zero_add _, by with_unfolding_all rfl, by with_unfolding_all rfl, by with_unfolding_all rfl, Fz, Nz, hI, .nil, rfl, Nat.le_refl _, rfl⟩
  · clear Fz Nz Fy Ny hI
    rintro σ ⟨k, hJ⟩
    induction k generalizing σ with
    | zero =>
      obtain ⟨i, h, tk1, m₁, held, hits, nk, nh, oI, rfl, hik, e1, e2, e3, Fm, Nm, hI, hH, hT, hl1, hl2⟩ := hJ
      replace Fm := fr_set (x := Str.ofString "size") (v := .int size t) (fr_set (x := Str.ofString "hits") (v := .ref Ht) (fr_set (x := Str.ofString "held") (v := .ref Hd) Fm e1) (by with_unfolding_all exact e2)) (by with_unfolding_all exact e3)
      have hi : i = ns.length := by omega
      subst hi
      have hn1 : ∀ p ∈ news, p.1 ≠ Hd := fun p hp => Nat.ne_of_lt (lA p hp)
      have hn2 : ∀ p ∈ news, p.1 ≠ Ht := fun p hp => Nat.ne_of_lt (allLt_mem lB.2 p hp)
      have hn3 : ∀ p ∈ news, p.1 ≠ I := fun p hp => Nat.ne_of_lt (allLt_mem l2.2.2 p hp)
      have off : ∀ p ∈ ((Ht, listOf hits.toArray nh) :: (Hd, listOf held.toArray nk) :: news), p.1 ≠ I := by
        intro p hp
        rcases List.mem_cons.mp hp with rfl | hp
        · exact Nat.ne_of_lt l2.1
        · rcases List.mem_cons.mp hp with rfl | hp
          · exact Nat.ne_of_lt l2.2.1
          · exact hn3 p hp
      refine for_end (l := la) (n := nn) (its := vs.toArray) (by passes_own) rfl Fm Nm hI off (List.mem_cons_of_mem _ (List.mem_cons_of_mem _ hla)) (by have := hvs.length; simp; omega) fun h' F' N' => ?_
      clear Fm Nm hI
      rw [List.take_length] at hH hT
      k_steps
      rename_i lD _ _ _ _
      exact hret _ Ht Hd hits held nh nk _ _ (by k_asm) (by k_asm) lA lB.1 lD.1 hT hH
    | succ k ih =>
      obtain ⟨i, h, tk1, m₁, held, hits, nk, nh, oI, rfl, hik, e1, e2, e3, Fm, Nm, hI, hH, hT, hl1, hl2⟩ := hJ
      replace Fm := fr_set (x := Str.ofString "size") (v := .int size t) (fr_set (x := Str.ofString "hits") (v := .ref Ht) (fr_set (x := Str.ofString "held") (v := .ref Hd) Fm e1) (by with_unfolding_all exact e2)) (by with_unfolding_all exact e3)
      have hlt : i < ns.length := by omega
      obtain ⟨tp, hx⟩ := hvs.get i ns[i] (by simp [hlt])
      have hn1 : ∀ p ∈ news, p.1 ≠ Hd := fun p hp => Nat.ne_of_lt (lA p hp)
      have hn2 : ∀ p ∈ news, p.1 ≠ Ht := fun p hp => Nat.ne_of_lt (allLt_mem lB.2 p hp)
      have hn3 : ∀ p ∈ news, p.1 ≠ I := fun p hp => Nat.ne_of_lt (allLt_mem l2.2.2 p hp)
      have off : ∀ p ∈ ((Ht, listOf hits.toArray nh) :: (Hd, listOf held.toArray nk) :: news), p.1 ≠ I := by
        intro p hp
        rcases List.mem_cons.mp hp with rfl | hp
        · exact Nat.ne_of_lt l2.1
        · rcases List.mem_cons.mp hp with rfl | hp
          · exact Nat.ne_of_lt l2.2.1
          · exact hn3 p hp
      refine for_item (l := la) (n := nn) (its := vs.toArray) (v := .int ns[i] tp) (by passes_own) Fm Nm hI off (List.mem_cons_of_mem _ (List.mem_cons_of_mem _ hla)) (by simpa using hx) fun h' oI' hI' F' N' => ?_
      clear Fm Nm hI
      have hstep := cacheF_succ size ns i hlt
      generalize hst : cacheF size (ns.take i) = st at hH hT hstep
      obtain ⟨Hs, Bs⟩ := st
      dsimp only at hH hT
      have hHl := hH.length
      have hlI := l2.1
      have hlI2 := l2.2.1
      have hlB := lB.1
      generalize ns[i] = p at hstep hx
      k_steps
      · rename_i Fq Nq
        unfold Mark
        rw [List.push_toArray, List.push_toArray] at Nq
        rename_i hc qq hx7 hqI hql tk8 hx8
        have hql2 := hqI.length
        have hql3 := List.length_erase_le (a := p) (l := Hs)
        refine ih _ ⟨i + 1, _, _, _, _, _, _, _, oI', rfl, by omega, by with_unfolding_all rfl, by with_unfolding_all rfl, by with_unfolding_all rfl, Fq, Nq, hI', ?_, ?_, ?_, ?_⟩
        · rw [hstep]; unfold cacheStep; rw [if_pos hc]; exact hqI.append (.cons _ _ .nil)
        · rw [hstep, hT]; unfold cacheStep; simp
        · simp only [List.length_append, List.length_singleton]; omega
        · simp only [List.length_append, List.length_singleton]; omega
      · rename_i Fq Nq
        unfold Mark
        rw [List.push_toArray, List.push_toArray] at Nq
        rename_i hc hlen2 tk6 y7 qq hx7 hqI hql tk8 hx8
        have hql2 := hqI.length
        rw [List.length_tail] at hql2
        refine ih _ ⟨i + 1, _, _, _, _, _, _, _, oI', rfl, by omega, by with_unfolding_all rfl, by with_unfolding_all rfl, by with_unfolding_all rfl, Fq, Nq, hI', ?_, ?_, ?_, ?_⟩
        · rw [hstep]; unfold cacheStep; rw [if_neg (by rw [hc]; exact Bool.false_ne_true), if_pos (by rw [← hHl]; exact hlen2)]; exact hqI.append (.cons _ _ .nil)
        · rw [hstep, hT]; unfold cacheStep; simp
        · simp only [List.length_append, List.length_singleton]; omega
        · simp only [List.length_append, List.length_singleton]; omega
      · rename_i Fq Nq
        unfold Mark
        rw [List.push_toArray, List.push_toArray] at Nq
        rename_i hc hlen2 tk6 hx8
        refine ih _ ⟨i + 1, _, _, _, _, _, _, _, oI', rfl, by omega, by with_unfolding_all rfl, by with_unfolding_all rfl, by with_unfolding_all rfl, Fq, Nq, hI', ?_, ?_, ?_, ?_⟩
        · rw [hstep]; unfold cacheStep; rw [if_neg (by rw [hc]; exact Bool.false_ne_true), if_neg (by rw [← hHl]; exact hlen2)]; exact hH.append (.cons _ _ .nil)
        · rw [hstep, hT]; unfold cacheStep; simp
        · simp only [List.length_append, List.length_singleton]; omega
        · simp only [List.length_append, List.length_singleton]; omega
end Mine
end
section
open PySem PySem.W PySem.Calls PyProof.Rows PySem.Spec
set_option pp.deepTerms false
set_option pp.deepTerms.threshold 8
set_option pp.proofs false
namespace Mine
set_option maxRecDepth 100000
section
variable {prog : Program} {w : World} {A : Around} {E : Value → Shared → Prop} {s : Shared} {h₀ : Heap} {L : Addr} {m : Str → Option Value} {news : List (Addr × Obj)} {Q : Value → Shared → Prop}
theorem join_led {x : Str} {t : Tok} {D : Addr} {its : Array Value} {n : Nat} {ys : List Str} (N : News h₀ L s.heap news) (hm : (D, listOf its n) ∈ news) (hi : StrsAre its.toList ys) (hs : x.length ≤ 16) (hw : (ys.map (·.length)).sum + ys.length ≤ 1048576)
    (h : ∀ t' k, Q (.str (Txt.join x ys) t') { s with toks := k }) : wpAny (model prog w) A (call (.builtin "str.join") [.str x t, .ref D]) Q E s :=
  join_listW ⟨_, (N _ hm).1, rfl, n, rfl⟩ hi hs hw h
end
theorem off_cons' {a : Addr} {o : Obj} {b : Addr} {T : List (Addr × Obj)} (h : @LT.lt Nat _ a b) (ho : ∀ p ∈ T, p.1 ≠ b) : ∀ p ∈ (a, o) :: T, p.1 ≠ b := fun p hp => by
  rcases List.mem_cons.mp hp with rfl | hp
  · exact Nat.ne_of_lt h
  · exact ho p hp
theorem pf_h0 : baseText "0x" 16 0 = Str.ofString "0x0" := by decide
theorem pf_l0 : (Str.ofString "0x0").length = 3 := by decide
theorem pf_l1 : (Str.ofString "OPTIMIZED").length = 9 := by decide
theorem pf_l2 : (Str.ofString "NEWLOCALS").length = 9 := by decide
theorem pf_l3 : (Str.ofString "VARARGS").length = 7 := by decide
theorem pf_l4 : (Str.ofString "VARKEYWORDS").length = 11 := by decide
theorem pf_andz {prog : Program} {w : World} {A : Around} {E : Value → Shared → Prop} {s : Shared} {Q : Value → Shared → Prop} {b : Int} {t u : Tok} (h : Q (.int 0 s.toks) { s with toks := s.toks + 1 }) : wpAny (model prog w) A (binaryOp .BitAnd (.int 0 t) (.int b u)) Q E s := by
  refine and_int ?_
  have : Builtin.bitAnd 0 b = 0 := by cases b <;> simp [Builtin.bitAnd]
  rw [this]; exact h
noncomputable def pfF : List Int := [1, 2, 3, 4, 5, 6, 7, 8, 9, 10, 11, 12, 13, 14, 15]
theorem pf_mem {f : Int} (h : 1 ≤ f ∧ f ≤ 15) : f ∈ pfF := by
  have e : f = ((f.toNat - 1 : Nat) : Int) + 1 := by omega
  have hn : f.toNat - 1 < 15 := by omega
  rw [e]
  generalize f.toNat - 1 = n at hn
  revert n
  decide
theorem pf_cast {Q : Value → Shared → Prop} {x : Str} {a b : List Str} {t : Tok} {s : Shared} (h : a = b) (q : Q (.str (Txt.join x a) t) s) : Q (.str (Txt.join x b) t) s := h ▸ q
theorem news_tl {h₀ h : Heap} {L : Addr} {x : Addr × Obj} {l : List (Addr × Obj)} (N : News h₀ L h (x :: l)) : News h₀ L h l := fun p hp => N p (List.mem_cons_of_mem _ hp)
noncomputable def pfRest (f : Int) : List Str :=
  if f = 0 then [Str.ofString "0x0"] else
  (if f % 2 = 1 then [Str.ofString "OPTIMIZED"] else []) ++ (if f / 2 % 2 = 1 then [Str.ofString "NEWLOCALS"] else []) ++ (if f / 4 % 2 = 1 then [Str.ofString "VARARGS"] else []) ++ (if f / 8 % 2 = 1 then [Str.ofString "VARKEYWORDS"] else [])
noncomputable def pfN (q : Int) : Str := if q = 1 then Str.ofString "OPTIMIZED" else if q = 2 then Str.ofString "NEWLOCALS" else if q = 4 then Str.ofString "VARARGS" else Str.ofString "VARKEYWORDS"
noncomputable def pfA : List Int := [0, 1, 2, 3]
/-- the flags left and the figure looked at -/
abbrev Pf (a f : Int) : Prop := a ∈ pfA ∧ f ∈ pfF ∧ f % (1 * 2 ^ a.toNat) = 0
theorem pf_tab0 : ∀ a ∈ pfA, ∀ f ∈ pfF, f % (1 * 2 ^ a.toNat) = 0 → Builtin.bitAnd f (1 * 2 ^ a.toNat) = 0 → Pf (a + 1) f := by decide +kernel
theorem pf_tab1 : ∀ a ∈ pfA, ∀ f ∈ pfF, Builtin.bitAnd f (1 * 2 ^ a.toNat) ≠ 0 → Builtin.bitXor f (1 * 2 ^ a.toNat) = f - 1 * 2 ^ a.toNat := by decide +kernel
theorem pf_tab2 : ∀ a ∈ pfA, ∀ f ∈ pfF, f % (1 * 2 ^ a.toNat) = 0 → Builtin.bitAnd f (1 * 2 ^ a.toNat) ≠ 0 → f - 1 * 2 ^ a.toNat ≠ 0 → Pf (a + 1) (f - 1 * 2 ^ a.toNat) := by decide +kernel
theorem pf_tab3 : ∀ a ∈ pfA, ∀ f ∈ pfF, f % (1 * 2 ^ a.toNat) = 0 → Builtin.bitAnd f (1 * 2 ^ a.toNat) ≠ 0 → pfRest f = if f - 1 * 2 ^ a.toNat = 0 then [pfN (1 * 2 ^ a.toNat)] else pfN (1 * 2 ^ a.toNat) :: pfRest (f - 1 * 2 ^ a.toNat) := by decide +kernel
theorem pf_tabA : ∀ a ∈ pfA, 0 ≤ a ∧ a < 4 ∧ (baseText "0x" 16 (1 * 2 ^ a.toNat)).length ≤ 3 := by decide +kernel
theorem pf_start {f : Int} (h : f ≠ 0) (h0 : 0 ≤ f) (h1 : f < 16) : Pf 0 f := ⟨by decide, pf_mem (by omega), Int.emod_one f⟩
theorem pf_lt {a f : Int} (h : Pf a f) : a < 4 := (pf_tabA _ h.1).2.1
theorem pf_ge {a f : Int} (h : Pf a f) : 0 ≤ a := (pf_tabA _ h.1).1
theorem pf_hex {a f : Int} (h : Pf a f) : (baseText "0x" 16 (1 * 2 ^ a.toNat)).length ≤ sizeLine := by
  have := (pf_tabA _ h.1).2.2
  rw [sizeLine_eq]; omega
theorem pf_len (q : Int) : (pfN q).length ≤ 11 := by
  unfold pfN
  split
  · decide
  · split
    · decide
    · split <;> decide
theorem pf_each {h : Heap} {P : Value → Prop} {els : Prop} {D : List (Int × KTD.Dat)} {a f : Int} {n1 n2 n4 n8 : Str} (hP : Pf a f) (e1 : n1 = pfN 1) (e2 : n2 = pfN 2) (e4 : n4 = pfN 4) (e8 : n8 = pfN 8) (k : ∀ t, P (.str (pfN (1 * 2 ^ a.toNat)) t)) :
    KTD.Each h (1 * 2 ^ a.toNat) P els ((1, .flat (.str n1)) :: (2, .flat (.str n2)) :: (4, .flat (.str n4)) :: (8, .flat (.str n8)) :: D) := by
  subst e1 e2 e4 e8
  have hA := hP.1
  clear hP
  simp only [pfA, List.mem_cons, List.not_mem_nil, or_false] at hA
  rcases hA with rfl | rfl | rfl | rfl
  · exact KTD.each_hit (by decide) k
  · exact KTD.each_miss (by decide) (KTD.each_hit (by decide) k)
  · exact KTD.each_miss (by decide) (KTD.each_miss (by decide) (KTD.each_hit (by decide) k))
  · exact KTD.each_miss (by decide) (KTD.each_miss (by decide) (KTD.each_miss (by decide) (KTD.each_hit (by decide) k)))
theorem pf_xor {prog : Program} {w : World} {A : Around} {E : Value → Shared → Prop} {s : Shared} {Q : Value → Shared → Prop} {f a : Int} {t u : Tok} (hP : Pf a f) (hb : Builtin.bitAnd f (1 * 2 ^ a.toNat) ≠ 0)
    (h : Q (.int (f - 1 * 2 ^ a.toNat) s.toks) { s with toks := s.toks + 1 }) : wpAny (model prog w) A (inplaceOp .BitXor (.int f t) (.int (1 * 2 ^ a.toNat) u)) Q E s := by
  refine ixor_int ?_
  rw [pf_tab1 _ hP.1 _ hP.2.1 hb]; exact h
local macro_rules | `(tactic| k_all) => `(tactic| assumption)
local macro_rules | `(tactic| k_mem) => `(tactic| assumption)
local macro_rules | `(tactic| k_room) => `(tactic| ktr_room)

set_option maxHeartbeats 4000000 in
theorem flags_c {w : World} {pv : Program} {lv : List Str} {mean : ExcName → Option Value} {mg mb : Str → Option Value} (dp un : Nat) (gd : Option (List Code)) (cn : Str) (cs : Scope) (a : Addr) (ccd : Value) (cl : List (Str × Addr)) (outer : List Env) (A₀ : Around) (base h₀ : Heap) (L : Addr) (m : Str → Option Value) (news : List (Addr × Obj)) (s : Shared) (Q E : Value → Shared → Prop)
   (B : Below A₀ base outer h₀) (F : Fr h₀ L s.heap m) (X : (Mine.hd.heap_39 w.params).In h₀) (N : News h₀ L s.heap news) (T : Top pv lv mean mg mb h₀) (hk : cs.kind = .function) (hdp : dp + 3 < recursionLimit) (hu : un + 24 < cLine)
   (f₀ : Int) (hf1 : 0 ≤ f₀) (hf2 : f₀ < 16) (t : Tok)
   (hret : ∀ t h' tk', Fr h₀ L h' m → News h₀ L h' news → Q (.str (Txt.join (Str.ofString ", ") (pfRest f₀)) t) { s with heap := h', toks := tk' }) :
   wpAny (model P₀ w) (ktrTop dp un gd cn cs L a ccd cl outer) (call (.ref 39) [.int f₀ t]) Q E s := by
  w_top off
  k_with_none
  k_with "binaryOp BitAnd int int" => (k_here; with_reducible refine pf_andz ?_)
  k_with "inplaceOp BitXor int int" => (k_here; k_dflt (refine pf_xor (by assumption) (by assumption) ?_))
  k_with "call builtin:hex" => (k_here; refine P.hex_of_int ?_ (pf_hex (by assumption)))
  k_with "Each" => (k_here; k_dflt (refine pf_each (by assumption) (by rfl) (by rfl) (by rfl) (by rfl) ?_); walk_at "w4")
  k_with "call builtin:str.join" => (k_here; k_dflt (refine' join_led ?Nk9 ?mk9 ?zk9 ?bk9 ?wk9 ?_; (case Nk9 => k_asm); (case mk9 => k_mem); (case zk9 => (try rw [Array.toList_push]); first | assumption | exact StrsAre.append' (by assumption) (.cons _ _ .nil)); (case bk9 => decide); (case wk9 => first | omega | (simp only [pf_h0, pf_l0, pf_l1, pf_l2, pf_l3, pf_l4, List.map_append, List.sum_append, List.length_append, List.map_cons, List.map_nil, List.sum_cons, List.sum_nil, List.length_cons, List.length_nil]; omega))); walk_at "w5")
  k_with "exec For Name Call cons cons" => (k_here; with_unfolding_all refine for_go ?_ (by intro _; rfl))
  k_with "pyIter ref" => (k_here; k_dflt (refine' for_range ?Fk9 ?Nk9 ?rk9 ?sk9 ?_; (case Fk9 => k_asm); (case Nk9 => k_asm); (case rk9 => assumption); (case sk9 => decide)); walk_at "w6")
  k_with "ForIt" => (refine Mark.out ?_)
  k_with "ForPost" => (unfold ForPost; dsimp only)
  k_with "ForRest" => (refine Mark.out ?_)
  refine wpAny_call ?_
  k_dflt cell_enter
  k_steps
  unfold Mark ForIt
  rename_i g' L' h1 FG' B' X' T' tk0 Nm h2 lA h3 Fa Na h4 tk1 r1 r2 r3 hR Fy Ny hgr I h5 Fz Nz l2
  clear hR
  refine use_for (fun σ => ∃ (k : Nat) (a b f : Int) (h : Heap) (tk1 : Nat) (tf : Tok) (m₁ : Str → Option Value) (vs : List Value) (ys : List Str) (nk : Nat),
    σ = { s with heap := h, toks := tk1 } ∧ a = 32 - k ∧ b = k ∧ m₁ (Str.ofString "names") = some (.ref Nm) ∧ m₁ (Str.ofString "flags") = some (.int f tf) ∧
    Fr g' L' h m₁ ∧ News g' L' h ((I, rangeO a b) :: (Nm, listOf vs.toArray nk) :: news) ∧ StrsAre vs ys ∧ pfRest f₀ = ys ++ pfRest f ∧ (ys.map (·.length)).sum + ys.length + 20 * k ≤ 640 ∧
    (f = 0 ∨ Pf a f)) ?_ ?_
  · exact ⟨32, 0, 32, f₀, _, _, _, _, [], [], 0, rfl, by decide, rfl, by with_unfolding_all rfl, by with_unfolding_all rfl, Fz, Nz, .nil, rfl, by decide, if h : f₀ = 0 then Or.inl h else Or.inr (pf_start h hf1 hf2)⟩
  · clear Fz Nz Fy Ny Fa Na hgr
    rintro σ ⟨k, hJ⟩
    induction k generalizing σ with
    | zero =>
      obtain ⟨a, b, f, h, tk1, tf, m₁, vs, ys, nk, rfl, ea, eb, e1, e2, Fm, Nm', hS, hfull, hw, hcase⟩ := hJ
      replace Fm := fr_set (x := Str.ofString "flags") (v := .int f tf) (fr_set (x := Str.ofString "names") (v := .ref Nm) Fm e1) (by with_unfolding_all exact e2)
      have hn1 : ∀ p ∈ news, p.1 ≠ Nm := fun p hp => Nat.ne_of_lt (lA p hp)
      have hn3 : ∀ p ∈ news, p.1 ≠ I := fun p hp => Nat.ne_of_lt (allLt_mem l2.2 p hp)
      obtain rfl : f = 0 := by
        rcases hcase with h | h
        · exact h
        · have := pf_lt h
          omega
      obtain rfl : b = 0 := by omega
      obtain rfl : a = 32 := by omega
      have off : ∀ p ∈ ((Nm, listOf vs.toArray nk) :: news), p.1 ≠ I := off_cons' l2.1 hn3
      refine forr_end (by passes_own) rfl Fm Nm' off (by decide) fun h' F' N' => ?_
      clear Fm Nm'
      k_steps
      refine pf_cast (a := pfRest f₀) ?_ (hret _ _ _ ?_ ?_)
      · rw [hfull]; exact congrArg (ys ++ ·) (by decide)
      · k_asm
      · (first | exact news_tl (by assumption) | exact news_tl (news_tl (by assumption)))
    | succ k ih =>
      obtain ⟨a, b, f, h, tk1, tf, m₁, vs, ys, nk, rfl, ea, eb, e1, e2, Fm, Nm', hS, hfull, hw, hcase⟩ := hJ
      replace Fm := fr_set (x := Str.ofString "flags") (v := .int f tf) (fr_set (x := Str.ofString "names") (v := .ref Nm) Fm e1) (by with_unfolding_all exact e2)
      have hn1 : ∀ p ∈ news, p.1 ≠ Nm := fun p hp => Nat.ne_of_lt (lA p hp)
      have hn3 : ∀ p ∈ news, p.1 ≠ I := fun p hp => Nat.ne_of_lt (allLt_mem l2.2 p hp)
      have off : ∀ p ∈ ((Nm, listOf vs.toArray nk) :: news), p.1 ≠ I := off_cons' l2.1 hn3
      have lI := l2.1
      rcases hcase with rfl | hP
      · refine forr_item (by passes_own) Fm Nm' off (by omega) fun h' F' N' => ?_
        clear Fm Nm'
        have ha0 : 0 ≤ a := by omega
        have ha1 : a ≤ 31 := by omega
        k_steps
        first
          | (refine pf_cast (a := pfRest f₀) ?_ (hret _ _ _ ?_ ?_)
             · rw [hfull]; exact congrArg (ys ++ ·) (by decide)
             · k_asm
             · (first | exact news_tl (by assumption) | exact news_tl (news_tl (by assumption))))
          | (rename Fr _ _ _ _ => Fq
             rename News _ _ _ _ => Nq
             unfold Mark
             (try rw [List.push_toArray] at Nq)
             first
               | (refine ih _ ⟨_, _, _, _, _, _, _, _, ys, _, rfl, ?_, ?_, by with_unfolding_all rfl, by with_unfolding_all rfl, Fq, Nq, hS, hfull, ?_, Or.inl rfl⟩ <;> omega)
               | (refine ih _ ⟨_, _, _, _, _, _, _, _, ys ++ [_], _, rfl, ?_, ?_, by with_unfolding_all rfl, by with_unfolding_all rfl, Fq, Nq, StrsAre.append' hS (.cons _ _ .nil), ?_, ?_, ?_⟩
                  · omega
                  · omega
                  · rw [hfull, List.append_assoc]; exact congrArg (ys ++ ·) (by decide)
                  · simp only [pf_h0, pf_l0, pf_l1, pf_l2, pf_l3, pf_l4, List.map_append, List.sum_append, List.length_append, List.map_cons, List.map_nil, List.sum_cons, List.sum_nil, List.length_cons, List.length_nil]; omega
                  · first | omega | decide +kernel))
      · have la := pf_lt hP
        have ga := pf_ge hP
        have hn := pf_len (1 * 2 ^ a.toNat)
        refine forr_item (by passes_own) Fm Nm' off (by omega) fun h' F' N' => ?_
        clear Fm Nm'
        k_steps
        all_goals first
          | (refine pf_cast (a := pfRest f₀) ?_ (hret _ _ _ ?_ ?_)
             · rw [hfull]; exact congrArg (ys ++ ·) ((pf_tab3 _ hP.1 _ hP.2.1 hP.2.2 (by assumption)).trans (if_pos (by assumption)))
             · k_asm
             · (first | exact news_tl (by assumption) | exact news_tl (news_tl (by assumption))))
          | (rename Fr _ _ _ _ => Fq
             rename News _ _ _ _ => Nq
             unfold Mark
             (try rw [List.push_toArray] at Nq)
             first
               | (refine ih _ ⟨_, _, _, _, _, _, _, _, ys, _, rfl, ?_, ?_, by with_unfolding_all rfl, by with_unfolding_all rfl, Fq, Nq, hS, hfull, ?_, Or.inr (pf_tab0 _ hP.1 _ hP.2.1 hP.2.2 (by assumption))⟩ <;> omega)
               | (refine ih _ ⟨_, _, _, _, _, _, _, _, ys ++ [_], _, rfl, ?_, ?_, by with_unfolding_all rfl, by with_unfolding_all rfl, Fq, Nq, StrsAre.append' hS (.cons _ _ .nil), ?_, ?_, Or.inr (pf_tab2 _ hP.1 _ hP.2.1 hP.2.2 (by assumption) (by assumption))⟩
                  · omega
                  · omega
                  · rw [hfull, List.append_assoc]; exact congrArg (ys ++ ·) ((pf_tab3 _ hP.1 _ hP.2.1 hP.2.2 (by assumption)).trans (if_neg (by assumption)))
                  · simp only [List.map_append, List.sum_append, List.length_append, List.map_cons, List.map_nil, List.sum_cons, List.sum_nil, List.length_cons, List.length_nil]; omega))
end Mine
end
section
open PySem PySem.W PySem.Calls PyProof.Rows PySem.Spec
set_option pp.deepTerms false
set_option pp.deepTerms.threshold 8
set_option pp.proofs false
namespace Mine
set_option maxRecDepth 100000
noncomputable def apB (d : Nat) : UInt8 := UInt8.ofNat (65 + d)
noncomputable def apV : List Nat → Int
  | [] => 0
  | d :: r => 16 * apV r + d
theorem apV_nonneg : ∀ r, 0 ≤ apV r
  | [] => Int.le_refl _
  | d :: r => by have := apV_nonneg r; simp only [apV]; omega
section
variable {prog : Program} {w : World} {A : Around} {E : Value → Shared → Prop} {s : Shared} {h₀ : Heap} {L : Addr} {m : Str → Option Value} {news : List (Addr × Obj)} {Q : Value → Shared → Prop}
theorem dm_x {a b q r : Int} {t u : Tok} (F : Fr h₀ L s.heap m) (N : News h₀ L s.heap news) (hb : b ≠ 0) (hb2 : b.natAbs < 1073741824) (hq : a.fdiv b = q) (hr : a.fmod b = r)
    (h : ∀ h', Fr h₀ L h' m → News h₀ L h' ((s.heap.objs.size, { cls := .type "tuple", data := .seq #[.int q s.toks, .int r (s.toks + 1)] }) :: news) →
      Q (.ref s.heap.objs.size) { s with toks := s.toks + 1 + 1, heap := h' }) :
    wpAny (model prog w) A (call (.builtin "divmod") [.int a t, .int b u]) Q E s := by
  subst hq hr
  exact divmod_N F N hb h (Or.inl (PyProof.noPylong_small hb2))
end
theorem truthy_known {prog : Program} {w : World} {A : Around} {E : Value → Shared → Prop} {s : Shared} {Q : Bool → Shared → Prop} {a : Int} {t : Tok} {b : Bool} (hb : (a != 0) = b) (h : Q b s) : wpAny (model prog w) A (truthy (.int a t)) Q E s := by
  refine PyProof.Rows.truthy_int ?_
  rw [hb]; exact h
local macro_rules | `(tactic| k_all) => `(tactic| assumption)
local macro_rules | `(tactic| k_mem) => `(tactic| assumption)
local macro_rules | `(tactic| k_room) => `(tactic| ktr_room)
theorem ap_cast {Q : Value → Shared → Prop} {a b : Array UInt8} {t : Tok} {s : Shared} (h : a = b) (q : Q (.bytes a t) s) : Q (.bytes b t) s := h ▸ q
set_option maxHeartbeats 4000000 in
theorem ap_c {w : World} {pv : Program} {lv : List Str} {mean : ExcName → Option Value} {mg mb : Str → Option Value} (dp un : Nat) (gd : Option (List Code)) (cn : Str) (cs : Scope) (a : Addr) (ccd : Value) (cl : List (Str × Addr)) (outer : List Env) (A₀ : Around) (base h₀ : Heap) (L : Addr) (m : Str → Option Value) (news : List (Addr × Obj)) (s : Shared) (Q E : Value → Shared → Prop)
   (B : Below A₀ base outer h₀) (F : Fr h₀ L s.heap m) (X : (Mine.hd.heap_39 w.params).In h₀) (N : News h₀ L s.heap news) (T : Top pv lv mean mg mb h₀) (hk : cs.kind = .function) (hdp : dp + 3 < recursionLimit) (hu : un + 24 < cLine)
   (rs₀ : List Nat) (hd₀ : ∀ d ∈ rs₀, 1 ≤ d ∧ d ≤ 4) (hl₀ : rs₀.length ≤ 8) (num : Int) (hnum : num = apV rs₀) (t : Tok)
   (hret : ∀ t h' tk', Fr h₀ L h' m → News h₀ L h' news → Q (.bytes (rs₀.reverse.map apB).toArray t) { s with heap := h', toks := tk' }) :
   wpAny (model P₀ w) (ktrTop dp un gd cn cs L a ccd cl outer) (call (.ref 53) [.int num t]) Q E s := by
  w_top off
  k_with_none
  k_with "truthy int" => (k_here; with_reducible refine truthy_known (by assumption) ?_)
  k_with "call builtin:divmod" => (k_here; k_dflt (refine' dm_x ?Fk9 ?Nk9 ?bk9 ?ck9 ?qk9 ?rk9 ?_; (case Fk9 => k_asm); (case Nk9 => k_asm); (case bk9 => decide); (case ck9 => decide); (case qk9 => assumption); (case rk9 => assumption)); intro _ _ _)
  k_with "binaryOp Add bytes bytes" => (k_here; (refine KBy.add_bytes (by assumption) ?_); intro _ _)
  k_with "exec" => ((with_reducible show wpAny _ _ (exec (Stmt.While (Expr.Name _ _) _ _ _) _) _ _ _); refine Mark.out ?_)
  k_with "exec While" => ((with_reducible show wpAny _ _ (exec (Stmt.While (Expr.Name _ _) _ _ _) _) _ _ _); refine Mark.out ?_)
  k_with "WhlRest" => (refine Mark.out ?_)
  have hn0 : 0 ≤ num := hnum ▸ apV_nonneg rs₀
  refine wpAny_call ?_
  k_dflt cell_enter
  k_steps
  unfold Mark
  refine whl_start 0 ?_
  rename_i g' L' h1 FG' B' X' T' tk1 h2 h3 u1 tk2 h4 Fz Nz
  have e0 : (if num < 0 then -num else num) = num := if_neg (by omega)
  refine use_loop (fun σ => ∃ (rs : List Nat) (n : Int) (h : Heap) (tk1 : Nat) (tn tv tA : Tok) (m₁ : Str → Option Value) (vb : Array UInt8),
    σ = { s with heap := h, toks := tk1 } ∧ n = apV rs ∧ m₁ (Str.ofString "num") = some (.int n tn) ∧ m₁ (Str.ofString "val") = some (.bytes vb tv) ∧ m₁ (Str.ofString "AP") = some (.bytes #[65, 66, 67, 68, 69, 70, 71, 72, 73, 74, 75, 76, 77, 78, 79, 80] tA) ∧
    Fr g' L' h m₁ ∧ News g' L' h news ∧ (∀ d ∈ rs, 1 ≤ d ∧ d ≤ 4) ∧ rs.length + vb.size ≤ 8 ∧ (rs₀.reverse.map apB).toArray = (rs.reverse.map apB).toArray ++ vb) ?_ ?_
  · refine ⟨rs₀, _, _, _, _, _, _, _, #[], rfl, ?_, by with_unfolding_all rfl, by with_unfolding_all rfl, by with_unfolding_all rfl, Fz, Nz, hd₀, hl₀, (Array.append_empty).symm⟩
    simp only [if_neg (show ¬ num < 0 by omega)]
    exact hnum
  · clear Fz Nz
    rintro σ ⟨rs, hJ⟩
    induction rs generalizing σ with
    | nil =>
      obtain ⟨n, h, tk1, tn, tv, tA, m₁, vb, rfl, hn, e1, e2, e3, Fm, Nm, hds, hsz, hres⟩ := hJ
      replace Fm := fr_set (x := Str.ofString "AP") (fr_set (x := Str.ofString "val") (fr_set (x := Str.ofString "num") Fm e1) (by with_unfolding_all exact e2)) (by with_unfolding_all exact e3)
      obtain rfl : n = 0 := hn
      refine whl_turn (k := 0) (by passes_own) ?_
      k_steps
      refine ap_cast ?_ (hret _ _ _ (by assumption) (by assumption))
      rw [hres]
      exact Array.empty_append
    | cons d r ih =>
      obtain ⟨n, h, tk1, tn, tv, tA, m₁, vb, rfl, hn, e1, e2, e3, Fm, Nm, hds, hsz, hres⟩ := hJ
      replace Fm := fr_set (x := Str.ofString "AP") (fr_set (x := Str.ofString "val") (fr_set (x := Str.ofString "num") Fm e1) (by with_unfolding_all exact e2)) (by with_unfolding_all exact e3)
      have hd1 := hds d (.head _)
      have hr0 := apV_nonneg r
      have hn2 : n = 16 * apV r + d := hn
      have hq : n.fdiv 16 = apV r := by rw [Int.fdiv_eq_ediv_of_nonneg _ (by decide)]; omega
      have hnz : n ≠ 0 := by omega
      have hz2 : 1 + vb.size ≤ 16777216 := by simp only [List.length_cons] at hsz; omega
      have hnb : (n != 0) = true := by simpa using hnz
      have hdd : d = 1 ∨ d = 2 ∨ d = 3 ∨ d = 4 := by omega
      have hr : n.fmod 16 = d := by rw [Int.fmod_eq_emod_of_nonneg _ (by decide)]; omega
      rcases hdd with rfl | rfl | rfl | rfl
      all_goals
        refine whl_turn (k := 0) (by passes_own) ?_
        k_steps
        rename_i Fq Nq
        unfold Mark
        refine ih _ ⟨_, _, _, _, _, _, _, _, rfl, rfl, by with_unfolding_all rfl, by with_unfolding_all rfl, by with_unfolding_all rfl, Fq, news_tl Nq, fun e he => hds e (.tail _ he), ?_, ?_⟩
        · simp only [List.length_cons] at hsz
          rw [Array.size_append]
          refine Nat.le_trans (Nat.le_of_eq ?_) hsz
          rw [← Nat.add_assoc]
          congr 1
        · rw [hres, List.reverse_cons, List.map_append, ← List.append_toArray, Array.append_assoc]
          congr 1
end Mine
end
section
open PySem PySem.W PySem.Calls PyProof.Rows PySem.Spec
namespace Mine
set_option maxRecDepth 100000
section
open Sem (wp)
variable {prog : Program} {w : World} {A : Around} {E : Value → Shared → Prop} {s : Shared}
abbrev ByteAt (b : Array UInt8) (i : Nat) (v : Value) : Prop := ∃ c u, b[i]? = some c ∧ v = .int (c.toNat : Int) u
theorem ext_bytes {R : Result → Shared → Prop} (hh : A.handled = none) (b : Array UInt8) (t : Tok) (S : Addr) (c₀ : Nat) (hS : s.heap.get? S = some { cls := .type "list", data := .seq #[] c₀ })
    (hR : ∀ h' tk acc' c', (∀ a o, a ≠ S → s.heap.get? a = some o → h'.get? a = some o) → h'.get? S = some { cls := .type "list", dict := none, data := .seq acc' c', slots := #[] } →
      ItemsOf (ByteAt b) acc' b.size → R (.ok (.ret .none)) { s with heap := h', toks := tk }) (hn : b.size ≤ sizeLine) :
    wpAny (model prog w) A.in1 (Builtin.List.listExtendWith (.ref S) (.bytes b t) .none)
      (fun fin s' => match fin with | .done f => R (.ok f) s' | .again c' => c'.quiet = true ∧ codeAny (model prog w) A c' R s') (fun e s' => R (.error e) s') s := by
  have hSI : S ≠ s.heap.objs.size := Nat.ne_of_lt (Heap.lt_size hS)
  have hSf : S ∉ [s.heap.objs.size] := fun hm => hSI (List.mem_singleton.mp hm)
  unfold Builtin.List.listExtendWith
  refine wpAny_bind (wpAny_typeOf (typeIs_bytes s b t) ?_)
  have h1 : Builtin.List.listSameRef (.ref S) (.bytes b t) = false := rfl
  have h2 : (Value.type "bytes" == Value.type "list") = false := by decide
  have h3 : (Value.type "bytes" == Value.type "tuple") = false := by decide
  simp only [h1, h2, h3, Bool.or_false, Bool.false_eq_true, if_false]
  refine wpAny_bind (KBw.pyIter_bytes ?_)
  refine wpAny_bind (wpAny_holding ?_)
  unfold Builtin.List.listLengthHint
  refine wpAny_bind (wpAny_specialOf (typeIs_bytes _ b t) FB.slot_bytes_len.lookup ?_)
  generalize hid : ("bytes.__len__" : String) = id0
  wp_delta
  rw [show splitId id0 = some ("bytes", "__len__") from by subst hid; decide +kernel]
  subst hid
  refine wpAny_bind (wpAny_isInstance (typeIs_bytes _ b t) (b := true) (by rw [isSubtype_type]; kernel_rfl) ?_)
  refine wpAny_ite_split (fun hab => absurd hab (by decide)) (fun _ => ?_)
  refine wpAny_ite_split (fun _ => ?_) (fun hab => absurd (by decide +kernel) hab)
  refine wpAny_bind (wpAny_typeOf (typeIs_bytes _ b t) ?_)
  refine wpAny_pure ?_
  rw [if_neg (by decide)]
  have W := (KBw.walks (prog := prog) (w := w) (A := A.in1) hh s.heap.objs.size b t).toS
  refine wpAny_pure ⟨plainId_quiet F.plain_extend_loop _, codeAny_extend_loopS W hn _ hSf _ b.size 0 _ _ _ rfl (Nat.zero_le _) ⟨_, Heap.get?_push_size _ rfl, rfl, rfl⟩ (Heap.get?_push_of_some _ hS) (ItemsOf.nil _) fun s' acc' c' hm hS' hacc => ?_⟩
  rw [Moved.eq_with hm]
  refine hR s'.heap s'.toks acc' c' (fun a ob hb e => hm.heap a ob (fun hmem => ?_) (Heap.get?_push_of_some _ e)) hS' hacc
  rcases List.mem_cons.mp hmem with e' | hmem
  · exact hb e'
  · exact absurd (Heap.lt_size e) (by rw [List.mem_singleton.mp hmem]; exact Nat.lt_irrefl _)
theorem init_bytes {R : Result → Shared → Prop} (hh : A.handled = none) (b : Array UInt8) (t : Tok) (S : Addr) (hS : s.heap.get? S = some { cls := .type "list", data := .seq #[] })
    (hR : ∀ h' tk acc' c', (∀ a o, a ≠ S → s.heap.get? a = some o → h'.get? a = some o) → h'.get? S = some { cls := .type "list", dict := none, data := .seq acc' c', slots := #[] } →
      ItemsOf (ByteAt b) acc' b.size → R (.ok (.ret .none)) { s with heap := h', toks := tk }) (hn : b.size ≤ sizeLine) :
    wpAny (model prog w) A.in1 (Builtin.«list.__init__» ⟨[.ref S, .bytes b t], []⟩)
      (fun fin s' => match fin with | .done f => R (.ok f) s' | .again c' => c'.quiet = true ∧ codeAny (model prog w) A c' R s') (fun e s' => R (.error e) s') s := by
  show wpAny _ _ (do let old ← Builtin.List.listItems (.ref S); Builtin.List.listUpdate (.ref S) (fun _ => #[]); letGo old.toList.reverse; Builtin.List.listExtendWith (.ref S) (.bytes b t) .none) _ _ s
  refine wpAny_bind ?_
  unfold Builtin.List.listItems
  refine wpAny_bind (wpAny_seqItems hS rfl (wpAny_pure ?_))
  show wpAny _ _ (updateSeq S (fun _ => #[]) >>= fun _ => letGo (#[] : Array Value).toList.reverse >>= fun _ => Builtin.List.listExtendWith (.ref S) (.bytes b t) .none) _ _ s
  refine wpAny_bind (wpAny_updateSeq hS rfl ?_)
  have hS₂ := Heap.get?_update_self (Obj.mapSeq (fun _ => (#[] : Array Value))) hS rfl
  have oth : ∀ a o, a ≠ S → s.heap.get? a = some o → (s.heap.update S (Obj.mapSeq (fun _ => (#[] : Array Value)))).get? a = some o :=
    fun a o hb e => (Heap.get?_update_other _ _ (Ne.symm hb)).trans e
  refine wpAny_bind (wpAny_letGo ?_)
  exact ext_bytes hh b t S _ hS₂ (fun h' tk acc' c' hk hS' hacc => hR h' tk acc' c' (fun a o hb e => hk a o hb (oth a o hb e)) hS' hacc) hn
theorem call_list_bytes {Q : Value → Shared → Prop} (hh : A.handled = none) (b : Array UInt8) (t : Tok) (hn : b.size ≤ sizeLine)
    (hQ : ∀ h' tk acc' c', (∀ a o, s.heap.get? a = some o → h'.get? a = some o) →
      h'.get? s.heap.objs.size = some { cls := .type "list", dict := none, data := .seq acc' c', slots := #[] } → ItemsOf (ByteAt b) acc' b.size → Q (.ref s.heap.objs.size) { s with heap := h', toks := tk }) :
    wpAny (model prog w) A (call (.type "list") [.bytes b t]) Q E s := by
  refine callType_codes (Q₁ := fun obj s₁ => obj = .ref s.heap.objs.size ∧ s₁ = { s with heap := s.heap.push { cls := .type "list", data := .seq #[] } }) F.called_list (F.typeCall_list_1 _) F.entry_list_init
    (code_list_new _ ⟨rfl, rfl⟩) fun obj s₁ h₁ => ?_
  obtain ⟨rfl, rfl⟩ := h₁
  have hS : (s.heap.push { cls := .type "list", data := .seq #[] }).get? s.heap.objs.size = some { cls := .type "list", data := .seq #[] } := Heap.get?_push_size _ rfl
  refine ⟨⟨_, hS, rfl⟩, F.args_list_init_2 _ _, init_bytes (A := A.in1) hh b t _ hS (fun h' tk acc' c' hk hS' hacc => ?_) hn⟩
  exact ⟨rfl, hQ h' tk acc' c' (fun a o e => hk a o (Nat.ne_of_lt (Heap.lt_size e)) (Heap.get?_push_of_some _ e)) hS' hacc⟩
theorem ints_of_at : ∀ {ys : List Value} {ks : List Int}, ys.length = ks.length → (∀ j, j < ys.length → ∃ t k, ks[j]? = some k ∧ ys[j]? = some (.int k t)) → IntsAre ys ks
  | [], [], _, _ => .nil
  | [], _ :: _, h, _ => nomatch h
  | _ :: _, [], h, _ => nomatch h
  | y :: ys, k :: ks, hl, h => by
    obtain ⟨t, k', h1, h2⟩ := h 0 (Nat.zero_lt_succ _)
    obtain rfl : k = k' := Option.some.inj h1
    obtain rfl : y = .int k t := Option.some.inj h2
    exact .cons _ _ (ints_of_at (Nat.succ.inj hl) fun j hj => h (j + 1) (Nat.succ_lt_succ hj))
theorem list_bytes_led {h₀ : Heap} {L : Addr} {m : Str → Option Value} {news : List (Addr × Obj)} {Q : Value → Shared → Prop} (hh : A.handled = none) (F : Fr h₀ L s.heap m) (N : News h₀ L s.heap news) {b : Array UInt8} {t : Tok} {ks : List Int} (hk : KBw.bInts b = ks) (hz : b.size ≤ 1000)
    (h : ∀ D us c h' tk, Fr h₀ L h' m → News h₀ L h' ((D, listOf (List.toArray us) c) :: news) → (∀ p ∈ news, p.1 < D) → IntsAre us ks → Q (.ref D) { s with heap := h', toks := tk }) :
    wpAny (model prog w) A (call (.type "list") [.bytes b t]) Q E s := by
  refine call_list_bytes hh b t (by rw [sizeLine_eq]; omega) fun h' tk acc c hk' hD hI => ?_
  have hD' : h'.get? s.heap.objs.size = some (listOf (List.toArray acc.toList) c) := by
    rw [Array.toArray_toList]
    exact hD
  refine h _ acc.toList c h' tk (F.keeps hk') (news_pushed F N hk' hD' rfl) (fun p hp => Heap.lt_size (N p hp).1) ?_
  subst hk
  refine ints_of_at (by rw [Array.length_toList, hI.1, KBw.ints_length]) fun j hj => ?_
  rw [Array.length_toList] at hj
  obtain ⟨c, u, h1, h2⟩ := hI.2 j acc[j] (by simp [hj])
  exact ⟨u, (c.toNat : Int), KBw.ints_get h1, by rw [Array.getElem?_toList]; simp [hj, h2]⟩
end
end Mine
end
section
open PySem PySem.W PySem.Calls PyProof.Rows PySem.Spec
namespace Mine
noncomputable def apG (d : Nat) : Int := (d : Int) + 65
theorem ap_ints (rs : List Nat) (h : ∀ d ∈ rs, 1 ≤ d ∧ d ≤ 4) : KBw.bInts (rs.reverse.map apB).toArray = rs.reverse.map apG := by
  rw [KBw.ints_list, List.map_map]
  refine List.map_congr_left fun d hd => ?_
  have := h d (List.mem_reverse.mp hd)
  obtain rfl | rfl | rfl | rfl : d = 1 ∨ d = 2 ∨ d = 3 ∨ d = 4 := by omega
  all_goals rfl
theorem idxOf_app (k : Int) (a b : List Int) (h : k ∉ a) : (a ++ k :: b).idxOf k = a.length := by
  induction a with
  | nil => simp
  | cons x a ih =>
    have hx : x ≠ k := fun e => h (e ▸ .head _)
    have := ih fun hm => h (.tail _ hm)
    rw [List.cons_append, List.idxOf_cons, beq_false_of_ne hx, cond_false, this]
    rfl
theorem apV_app (l r : List Nat) : apV (l ++ r) = apV r * 16 ^ l.length + apV l := by
  induction l with
  | nil => simp [apV]
  | cons d l ih =>
    rw [List.cons_append, apV, apV, ih, List.length_cons, Int.pow_succ]
    generalize (16 : Int) ^ l.length = z
    rw [← Int.mul_assoc, Int.mul_add, Int.mul_comm 16 (apV r * z)]
    omega
theorem apV_lt (l : List Nat) (h : ∀ d ∈ l, 1 ≤ d ∧ d ≤ 4) : apV l < 16 ^ l.length := by
  induction l with
  | nil => decide
  | cons d l ih =>
    have h1 := ih fun e he => h e (.tail _ he)
    have h2 := h d (.head _)
    rw [List.length_cons, Int.pow_succ, apV]
    generalize (16 : Int) ^ l.length = z at h1 ⊢
    omega
theorem apG_any (f : Nat) (rs : List Nat) : (rs.reverse.map apG).any (· == (f : Int) + 65) = decide (f ∈ rs) := by
  rw [Bool.eq_iff_iff, List.any_eq_true, decide_eq_true_eq]
  constructor
  · rintro ⟨x, hx, he⟩
    obtain ⟨d, hd, rfl⟩ := List.mem_map.mp hx
    have : (d : Int) + 65 = f + 65 := by simpa [apG] using he
    obtain rfl : d = f := by omega
    exact List.mem_reverse.mp hd
  · intro h
    exact ⟨apG f, List.mem_map.mpr ⟨f, List.mem_reverse.mpr h, rfl⟩, by simp [apG]⟩
structure PlFacts (rs : List Nat) (f : Nat) where
  (p ix : Nat) (bh q1 q2 r1 : Int)
  hp : p ≤ 8
  hbh : (16 : Int) ^ p = bh
  hb0 : bh ≠ 0
  hb1 : bh.natAbs < 1073741824
  hix : (rs.reverse.map apG).idxOf ((f : Int) + 65) = ix
  hlen : rs.length = p + 1 + ix
  hq1 : (apV rs).fdiv bh = q1
  hq2 : q1.fdiv 16 = q2
  hr1 : (apV rs).fmod bh = r1
  hres : (q2 * bh + r1) * 16 + f = apV (f :: rs.erase f)
theorem pl_facts (rs : List Nat) (f : Nat) (hn : rs.Nodup) (hd : ∀ d ∈ rs, 1 ≤ d ∧ d ≤ 4) (hl : rs.length ≤ 4) (hf : f ∈ rs) : Nonempty (PlFacts rs f) := by
  obtain ⟨l1, l2, rfl⟩ := List.append_of_mem hf
  have hn1 := hn
  rw [List.nodup_append] at hn1
  have h1 : f ∉ l1 := fun hm => hn1.2.2 f hm f (.head _) rfl
  have h2 : f ∉ l2 := (List.nodup_cons.mp hn1.2.1).1
  simp only [List.length_append, List.length_cons] at hl
  have hf4 := hd f hf
  have hlt := apV_lt l1 fun d h => hd d (List.mem_append_left _ h)
  have hz1 := apV_nonneg l1
  have hz2 := apV_nonneg l2
  have hv : apV (l1 ++ f :: l2) = (16 * apV l2 + f) * 16 ^ l1.length + apV l1 := apV_app _ _
  have hpos : (0 : Int) < 16 ^ l1.length := by omega
  refine ⟨⟨l1.length, l2.length, 16 ^ l1.length, 16 * apV l2 + f, apV l2, apV l1, by omega, rfl, by omega, ?_, ?_, by simp only [List.length_append, List.length_cons]; omega, ?_, ?_, ?_, ?_⟩⟩
  · obtain h | h | h | h : l1.length = 0 ∨ l1.length = 1 ∨ l1.length = 2 ∨ l1.length = 3 := by omega
    all_goals rw [h]; decide
  · rw [List.reverse_append, List.reverse_cons, List.append_assoc, List.singleton_append, List.map_append, List.map_cons]
    rw [show apG f = (f : Int) + 65 from rfl, idxOf_app _ _ _ fun hm => ?_]
    · simp
    · obtain ⟨d, hd', he⟩ := List.mem_map.mp hm
      have : (d : Int) + 65 = f + 65 := he
      obtain rfl : d = f := by omega
      exact h2 (List.mem_reverse.mp hd')
  · rw [hv, Int.fdiv_eq_ediv_of_nonneg _ (Int.le_of_lt hpos), Int.add_comm, Int.add_mul_ediv_right _ _ (by omega), Int.ediv_eq_zero_of_lt hz1 hlt, Int.zero_add]
  · rw [Int.fdiv_eq_ediv_of_nonneg _ (by decide)]; omega
  · rw [hv, Int.fmod_eq_emod_of_nonneg _ (Int.le_of_lt hpos), Int.add_comm, Int.add_mul_emod_self_right, Int.emod_eq_of_lt hz1 hlt]
  · rw [List.erase_append_right _ h1, List.erase_cons_head, apV, apV_app, Int.mul_comm]
theorem pl_other (rs : List Nat) (f : Nat) (hf : f ∉ rs) : apV rs * 16 + f = apV (f :: rs.erase f) := by
  rw [List.erase_of_not_mem hf, apV, Int.mul_comm]
end Mine
end
section
open PySem PySem.W PySem.Calls PyProof.Rows PySem.Spec
set_option pp.deepTerms false
set_option pp.deepTerms.threshold 8
set_option pp.proofs false
namespace Mine
set_option maxRecDepth 100000
section
variable {prog : Program} {w : World} {A : Around} {E : Value → Shared → Prop} {s : Shared} {h₀ : Heap} {L : Addr} {m : Str → Option Value} {news : List (Addr × Obj)} {Q : Value → Shared → Prop}
theorem pw_x {e bh : Int} {p : Nat} {t u : Tok} (hbh : (16 : Int) ^ p = bh) (hp : p ≤ 8) (he : e = p) (h : Q (.int bh s.toks) { s with toks := s.toks + 1 }) : wpAny (model prog w) A (binaryOp .Pow (.int 16 t) (.int e u)) Q E s := by
  subst he hbh
  refine pow_int_small (by omega) (by omega) (by decide) ?_
  rw [Int.toNat_natCast]; exact h
theorem fd_x {a b q : Int} {t u : Tok} (hq : a.fdiv b = q) (hb : b ≠ 0) (hb2 : b.natAbs < 1073741824) (h : Q (.int q s.toks) { s with toks := s.toks + 1 }) : wpAny (model prog w) A (binaryOp .FloorDiv (.int a t) (.int b u)) Q E s :=
  floordiv_int hb (by rw [hq]; exact h) (Or.inl (PyProof.noPylong_small hb2))
theorem fm_x {a b q : Int} {t u : Tok} (hq : a.fmod b = q) (hb : b ≠ 0) (h : Q (.int q s.toks) { s with toks := s.toks + 1 }) : wpAny (model prog w) A (binaryOp .Mod (.int a t) (.int b u)) Q E s :=
  mod_int' hb (by rw [hq]; exact h)
theorem notin_x {D : Addr} {vs : List Value} {n : Nat} {ks : List Int} {k : Int} {t : Tok} {b : Bool} (N : News h₀ L s.heap news) (hm : (D, listOf vs.toArray n) ∈ news) (hi : IntsAre vs ks) (hb : ks.any (· == k) = b) (h : Q (.bool (!b)) s) : wpAny (model prog w) A (compareOp .NotIn (.int k t) (.ref D)) Q E s :=
  notin_led N hm hi (by rw [hb]; exact h)
theorem index_x {D : Addr} {vs : List Value} {n : Nat} {ks : List Int} {k : Int} {t : Tok} {ix : Nat} (N : News h₀ L s.heap news) (hm : (D, listOf vs.toArray n) ∈ news) (hi : IntsAre vs ks) (hb : ks.any (· == k) = true) (hx : ks.idxOf k = ix) (hz : ks.length ≤ 1000)
    (h : Q (.int (ix : Nat) s.toks) { s with toks := s.toks + 1 }) : wpAny (model prog w) A (call (.builtin "list.index") [.ref D, .int k t]) Q E s :=
  index_led N hm hi hb hz (by rw [hx]; exact h)
end
local macro_rules | `(tactic| k_all) => `(tactic| assumption)
local macro_rules | `(tactic| k_mem) => `(tactic| assumption)
local macro_rules | `(tactic| k_room) => `(tactic| ktr_room)
theorem pl_cast {Q : Value → Shared → Prop} {a b : Int} {t : Tok} {s : Shared} (h : a = b) (q : Q (.int a t) s) : Q (.int b t) s := h ▸ q
set_option maxHeartbeats 4000000 in
theorem last_c {w : World} {pv : Program} {lv : List Str} {mean : ExcName → Option Value} {mg mb : Str → Option Value} (dp un : Nat) (gd : Option (List Code)) (cn : Str) (cs : Scope) (a : Addr) (ccd : Value) (cl : List (Str × Addr)) (outer : List Env) (A₀ : Around) (base h₀ : Heap) (L : Addr) (m : Str → Option Value) (news : List (Addr × Obj)) (s : Shared) (Q E : Value → Shared → Prop)
   (B : Below A₀ base outer h₀) (F : Fr h₀ L s.heap m) (X : (Mine.hd.heap_39 w.params).In h₀) (N : News h₀ L s.heap news) (T : Top pv lv mean mg mb h₀) (hk : cs.kind = .function) (hdp : dp + 4 < recursionLimit) (hu : un + 32 < cLine)
   (rs : List Nat) (hn : rs.Nodup) (hd : ∀ d ∈ rs, 1 ≤ d ∧ d ≤ 4) (hl : rs.length ≤ 4) (num : Int) (hnum : num = apV rs) (t : Tok) (f : Nat) (fg : Int) (hfg : fg = f) (u : Tok)
   (hret : ∀ t h' tk', Fr h₀ L h' m → News h₀ L h' news → Q (.int (apV (f :: rs.erase f)) t) { s with heap := h', toks := tk' }) :
   wpAny (model P₀ w) (ktrTop dp un gd cn cs L a ccd cl outer) (call (.ref 89) [.int num t, .int fg u]) Q E s := by
  w_top off
  k_with_none
  k_with "call ref" => (k_here; (show wpAny _ _ (call (Value.ref 53) _) _ _ _); k_dflt (refine' ap_c _ _ _ _ _ _ _ _ _ _ _ _ _ _ _ _ _ _ ?k1k9 ?k2k9 ?k3k9 ?k4k9 ?k5k9 ?k6k9 ?k7k9 ?k8k9 _ ?dk9 ?lk9 _ ?nk9 _ ?_; (case k1k9 => k_asm); (case k2k9 => k_asm); (case k3k9 => k_asm); (case k4k9 => k_asm); (case k5k9 => k_asm); (case k6k9 => first | exact rfl | assumption); (case k7k9 => ktr_room); (case k8k9 => ktr_units); (case dk9 => assumption); (case lk9 => assumption); (case nk9 => assumption)); walk_at "w7")
  k_with "call type:list" => (k_here; (with_reducible show wpAny _ _ (call (Value.type _) [Value.bytes _ _]) _ _ _); k_dflt (refine' list_bytes_led ?hk9 ?Fk9 ?Nk9 ?kk9 ?zk9 ?_; (case hk9 => rfl); (case Fk9 => k_asm); (case Nk9 => k_asm); (case kk9 => assumption); (case zk9 => assumption)); walk_at "w8")
  k_with "call builtin:len" => (k_here; k_dflt (refine' len_led ?Nk9 ?mk9 ?zk9 ?_; (case Nk9 => k_asm); (case mk9 => k_mem); (case zk9 => (have hl9 := IntsAre.length (by assumption); omega))))
  k_with "compareOp NotIn int ref" => (k_here; k_dflt (refine' notin_x ?Nk9 ?mk9 ?ik9 ?bk9 ?_; (case Nk9 => k_asm); (case mk9 => k_mem); (case ik9 => assumption); (case bk9 => assumption)))
  k_with "call builtin:list.index" => (k_here; k_dflt (refine' index_x ?Nk9 ?mk9 ?ik9 ?bk9 ?xk9 ?zk9 ?_; (case Nk9 => k_asm); (case mk9 => k_mem); (case ik9 => assumption); (case bk9 => assumption); (case xk9 => assumption); (case zk9 => omega)))
  k_with "binaryOp Pow int int" => (k_here; k_dflt (refine' pw_x ?bk9 ?pk9 ?ek9 ?_; (case bk9 => assumption); (case pk9 => assumption); (case ek9 => (have hl9 := IntsAre.length (by assumption); omega))))
  k_with "binaryOp FloorDiv int int" => (k_here; k_dflt (refine' fd_x ?qk9 ?bk9 ?ck9 ?_; (case qk9 => assumption); (case bk9 => first | decide | assumption); (case ck9 => first | decide | assumption)))
  k_with "binaryOp Mod int int" => (k_here; k_dflt (refine' fm_x ?qk9 ?bk9 ?_; (case qk9 => assumption); (case bk9 => first | decide | assumption)))
  have hl8 : rs.length ≤ 8 := by omega
  have hks := ap_ints rs hd
  have hz : (rs.reverse.map apB).toArray.size ≤ 1000 := by simp; omega
  have hlk : (rs.reverse.map apG).length = rs.length := by simp
  have hany := apG_any f rs
  rw [← hfg] at hany
  by_cases hf : f ∈ rs
  · obtain ⟨⟨p, ix, bh, q1, q2, r1, hp, hbh, hb0, hb1, hix, hlen, hq1, hq2, hr1, hres⟩⟩ := pl_facts rs f hn hd hl hf
    rw [decide_eq_true hf] at hany
    rw [← hfg] at hix hres
    rw [← hnum] at hq1 hr1
    generalize rs.reverse.map apG = ks at hks hlk hany hix
    refine wpAny_call ?_
    k_dflt cell_enter
    k_steps
    refine pl_cast hres.symm (hret _ _ _ (by assumption) ?_)
    exact news_tl (by assumption)
  · rw [decide_eq_false hf] at hany
    generalize rs.reverse.map apG = ks at hks hlk hany
    refine wpAny_call ?_
    k_dflt cell_enter
    k_steps
    refine pl_cast (by rw [hnum, hfg]; exact (pl_other rs f hf).symm) (hret _ _ _ (by assumption) ?_)
    exact news_tl (by assumption)
end Mine
end
section
open PySem PySem.W PySem.Calls PyProof.Rows PySem.Spec
set_option pp.deepTerms false
set_option pp.deepTerms.threshold 8
set_option pp.proofs false
namespace Mine
set_option maxRecDepth 100000
noncomputable def nmL (ks : List Int) : List Str :=
  (if ks.any (· == 0) = true then [Str.ofString "OPTIMIZED"] else []) ++ (if ks.any (· == 1) = true then [Str.ofString "NEWLOCALS"] else []) ++ (if ks.any (· == 2) = true then [Str.ofString "VARARGS"] else []) ++ (if ks.any (· == 3) = true then [Str.ofString "VARKEYWORDS"] else [])
noncomputable def nmT (ks : List Int) : Str := if nmL ks = [] then Str.ofString "0x0" else Txt.join (Str.ofString ", ") (nmL ks)
noncomputable def nmS : Nat → Str
  | 0 => Str.ofString "OPTIMIZED"
  | 1 => Str.ofString "NEWLOCALS"
  | 2 => Str.ofString "VARARGS"
  | _ => Str.ofString "VARKEYWORDS"
/-- the names of the pages below i that are in ks -/
noncomputable def nmP (ks : List Int) : Nat → List Str
  | 0 => []
  | i + 1 => nmP ks i ++ (if ks.any (· == 0 + (i : Int)) = true then [nmS i] else [])
noncomputable def nmJ (ks : List Int) (i : Nat) (ys : List Value) : Prop := StrsAre ys (nmP ks i)
theorem nmJ_yes {ks : List Int} {i : Nat} {ys : List Value} {t : Tok} (h : nmJ ks i ys) (hb : ks.any (· == 0 + (i : Int)) = true) : nmJ ks (i + 1) (ys ++ [.str (nmS i) t]) := by
  show StrsAre _ (nmP ks i ++ (if ks.any (· == 0 + (i : Int)) = true then [nmS i] else []))
  rw [if_pos hb]; exact StrsAre.append' h (.cons _ _ .nil)
theorem nmJ_no {ks : List Int} {i : Nat} {ys : List Value} (h : nmJ ks i ys) (hb : ks.any (· == 0 + (i : Int)) = false) : nmJ ks (i + 1) ys := by
  show StrsAre _ (nmP ks i ++ (if ks.any (· == 0 + (i : Int)) = true then [nmS i] else []))
  rw [if_neg (by rw [hb]; exact Bool.false_ne_true), List.append_nil]; exact h
noncomputable def nmB (a b c d : Bool) : List Str := (if a = true then [Str.ofString "OPTIMIZED"] else []) ++ (if b = true then [Str.ofString "NEWLOCALS"] else []) ++ (if c = true then [Str.ofString "VARARGS"] else []) ++ (if d = true then [Str.ofString "VARKEYWORDS"] else [])
theorem nmP_eq (ks : List Int) : nmP ks 4 = nmL ks := rfl
theorem nmB_all : ∀ a b c d : Bool, ((nmB a b c d).map (·.length)).sum + (nmB a b c d).length ≤ 100 ∧ (Txt.join (Str.ofString ", ") (nmB a b c d)).length ≤ 100 ∧
    (((Txt.join (Str.ofString ", ") (nmB a b c d)).length : Int) != 0) = !decide (nmB a b c d = []) := by decide +kernel
theorem nm_all (ks : List Int) : ((nmP ks 4).map (·.length)).sum + (nmP ks 4).length ≤ 100 ∧ (Txt.join (Str.ofString ", ") (nmP ks 4)).length ≤ 100 ∧
    (((Txt.join (Str.ofString ", ") (nmP ks 4)).length : Int) != 0) = !decide (nmP ks 4 = []) := nmB_all (ks.any (· == 0)) (ks.any (· == 1)) (ks.any (· == 2)) (ks.any (· == 3))
theorem nm_fit (ks : List Int) : ¬ ((Txt.join (Str.ofString ", ") (nmP ks 4)).length : Int) ≥ 2 ^ 63 := by
  have := (nm_all ks).2.1; omega
theorem nm_yes {ks : List Int} (h : (((Txt.join (Str.ofString ", ") (nmP ks 4)).length : Int) != 0) = true) : Txt.join (Str.ofString ", ") (nmP ks 4) = nmT ks := by
  rw [(nm_all ks).2.2] at h
  exact (if_neg (show ¬ nmP ks 4 = [] by simpa using h)).symm
theorem nm_no {ks : List Int} (h : (((Txt.join (Str.ofString ", ") (nmP ks 4)).length : Int) != 0) = false) : Str.ofString "0x0" = nmT ks := by
  rw [(nm_all ks).2.2] at h
  exact (if_pos (show nmP ks 4 = [] by simpa using h)).symm
section
variable {prog : Program} {w : World} {A : Around} {E : Value → Shared → Prop} {s : Shared} {h₀ : Heap} {L : Addr} {m : Str → Option Value} {news : List (Addr × Obj)} {Q : Value → Shared → Prop}
theorem in_x {D : Addr} {vs : List Value} {n : Nat} {ks : List Int} {k : Int} {t : Tok} {b : Bool} (N : News h₀ L s.heap news) (hm : (D, listOf vs.toArray n) ∈ news) (hi : IntsAre vs ks) (hb : ks.any (· == k) = b) (h : Q (.bool b) s) : wpAny (model prog w) A (compareOp .In (.int k t) (.ref D)) Q E s :=
  in_led N hm hi (by rw [hb]; exact h)
theorem name_at {value slice : PySem.Expr} {D : Addr} {ta tb tc td u : Tok} {i n : Nat} (hi : i < 4) (N : News h₀ L s.heap news) (hm : (D, ({ cls := .type "tuple", data := .seq #[.str (Str.ofString "OPTIMIZED") ta, .str (Str.ofString "NEWLOCALS") tb, .str (Str.ofString "VARARGS") tc, .str (Str.ofString "VARKEYWORDS") td] n } : Obj)) ∈ news)
    (h : ∀ t, Q (.str (nmS i) t) s)
    (hs : subscripted slice false (.ref D) (.int (0 + (i : Int)) u) = operate [.ref D, .int (0 + (i : Int)) u] (getItem (.ref D) (.int (0 + (i : Int)) u)) := by with_unfolding_all rfl) :
    wpAny (model prog w) A (subscriptTail value slice (.ref D) (.int (0 + (i : Int)) u)) Q E s := by
  have hi : i = 0 ∨ i = 1 ∨ i = 2 ∨ i = 3 := by omega
  have ht : IsTup s.heap D (List.toArray [.str (Str.ofString "OPTIMIZED") ta, .str (Str.ofString "NEWLOCALS") tb, .str (Str.ofString "VARARGS") tc, .str (Str.ofString "VARKEYWORDS") td]) := News.isTup N hm
  rcases hi with rfl | rfl | rfl | rfl
  · exact item_tupleT (hs := hs) ht (by decide) (by decide) rfl rfl (h _)
  · exact item_tupleT (hs := hs) ht (by decide) (by decide) rfl rfl (h _)
  · exact item_tupleT (hs := hs) ht (by decide) (by decide) rfl rfl (h _)
  · exact item_tupleT (hs := hs) ht (by decide) (by decide) rfl rfl (h _)
end
local macro_rules | `(tactic| k_all) => `(tactic| assumption)
local macro_rules | `(tactic| k_mem) => `(tactic| assumption)
local macro_rules | `(tactic| k_room) => `(tactic| ktr_room)
theorem nm_cast {Q : Value → Shared → Prop} {a b : Str} {t : Tok} {s : Shared} (h : a = b) (q : Q (.str a t) s) : Q (.str b t) s := h ▸ q
set_option maxHeartbeats 4000000 in
theorem names_c {w : World} {pv : Program} {lv : List Str} {mean : ExcName → Option Value} {mg mb : Str → Option Value} (dp un : Nat) (gd : Option (List Code)) (cn : Str) (cs : Scope) (a : Addr) (ccd : Value) (cl : List (Str × Addr)) (outer : List Env) (A₀ : Around) (base h₀ : Heap) (L : Addr) (m : Str → Option Value) (news : List (Addr × Obj)) (s : Shared) (Q E : Value → Shared → Prop)
   (B : Below A₀ base outer h₀) (F : Fr h₀ L s.heap m) (X : (Mine.hd.heap_39 w.params).In h₀) (N : News h₀ L s.heap news) (T : Top pv lv mean mg mb h₀) (hk : cs.kind = .function) (hdp : dp + 3 < recursionLimit) (hu : un + 24 < cLine)
   (l : Addr) (vs : List Value) (ks : List Int) (n : Nat) (hm : (l, listOf vs.toArray n) ∈ news) (hi : IntsAre vs ks)
   (hret : ∀ t h' tk', Fr h₀ L h' m → News h₀ L h' news → Q (.str (nmT ks) t) { s with heap := h', toks := tk' }) :
   wpAny (model P₀ w) (ktrTop dp un gd cn cs L a ccd cl outer) (call (.ref 94) [.ref l]) Q E s := by
  w_top off
  k_with_none
  k_with "eval ListComp" => (k_here; k_dflt (refine LCt.ListComp_T (F₀ := by k_asm) (by with_unfolding_all rfl) (by decide) (by rfl) (by decide) (by rfl) ?_))
  k_with "CompSrcT" => (refine Mark.out ?_)
  k_with "subscriptTail Name Name ref int" => (k_here; k_dflt (refine' name_at ?hik9 ?Nk9 ?mk9 ?_; (case hik9 => with_reducible assumption); (case Nk9 => k_asm); (case mk9 => k_mem)); walk_at "w4")
  k_with "compareOp In int ref" => (k_here; k_dflt (refine' in_led ?Nk9 ?mk9 ?ik9 ?_; (case Nk9 => k_asm); (case mk9 => k_mem); (case ik9 => assumption)))
  refine wpAny_call ?_
  k_dflt (refine' code_defC ?k1 ?k2 ?k3 ?k4 ?k5 ?kA ?kF ?kK ?k6 ?k7 ?k8 ?k9 ?kB ?kD ?_ ?c2 ?c3 ?c4; (case kA => exact rfl); (case kF => exact rfl); (case kK => assumption); (case k1 => k_asm); (case k2 => k_asm); (case k3 => k_asm); (case k4 => k_asm); (case k5 => k_asm); (case k6 => k_is); (case k7 => k_is); (case k8 => ktr_room); (case k9 => exact BindsTo.of_eq rfl); (case kB => exact rfl); (case kD => decide +kernel); (case c2 => exact rfl); (case c3 => exact rfl); (case c4 => exact rfl); k_whole)
  intro g' L' h' tk' cells' FG' F' N' Y' B' X' T' l1
  (try k_lt l1)
  k_cells Y'
  (try simp only [List.cons_append, List.nil_append] at N')
  (try dsimp only)
  (try k_lift B')
  (try k_fold)
  have hn1 : ∀ p ∈ news, p.1 ≠ L' + 1 := fun p hp => Nat.ne_of_lt (Nat.lt_succ_of_lt (l1 p hp))
  have hn2 : ∀ p ∈ news, p.1 ≠ L' + 1 + 1 := fun p hp => Nat.ne_of_lt (Nat.lt_succ_of_lt (Nat.lt_succ_of_lt (l1 p hp)))
  k_steps
  unfold Mark
  rename Fr _ _ _ _ => Fh
  rename News _ _ _ _ => Nh
  refine LCt.CompSrcT.range (n := 4) (by rfl) Fh Nh (by assumption) (by decide) (by rfl) (Nat.le_of_ble_eq_true rfl) fun g9 => ?_
  refine rest_filter (J := nmJ ks) trivial 4 ?turn ?fin 4 0 [] rfl .nil
  case turn =>
    intro i9 v I9 oI9 C9 oC9 D9 m₂ h tk ys9 E' hi9 hP9 hJ9 hNs hm1 F N
    obtain ⟨t9, rfl⟩ := hP9
    clear Fh Nh
    cases hin : ks.any (· == 0 + (i9 : Int)) with
    | true =>
      k_steps
      exact ⟨nmJ_yes hJ9 hin, _, _, rfl, F, N⟩
    | false =>
      k_steps
      exact ⟨nmJ_no hJ9 hin, _, _, rfl, F, N⟩
  case fin =>
    intro ys9 hJ9
    clear Fh Nh
    k_steps
    rename Fr _ _ _ _ => Fj
    rename News _ _ _ _ => Nj
    refine join_led Nj (by k_mem) hJ9 (by decide) (Nat.le_trans (nm_all ks).1 (by decide)) fun t8 k8 => ?_
    k_steps
    refine P.truthy_str (nm_fit ks) ?_
    cases hn : (((Txt.join (Str.ofString ", ") (nmP ks 4)).length : Int) != 0) with
    | true =>
      k_steps
      refine nm_cast (nm_yes hn).symm (hret _ _ _ (by assumption) ?_)
      rename News h₀ L _ _ => Nq
      exact fun p hp => Nq p (by repeat (first | exact hp | apply List.mem_cons_of_mem))
    | false =>
      k_steps
      refine nm_cast (nm_no hn).symm (hret _ _ _ (by assumption) ?_)
      rename News h₀ L _ _ => Nq
      exact fun p hp => Nq p (by repeat (first | exact hp | apply List.mem_cons_of_mem))
end Mine
end
section
open PySem PySem.W PySem.Calls PyProof.Rows PySem.Spec
namespace Mine
set_option maxRecDepth 100000
section
open Sem (wp)
open AutoSeq1 (wpAny_loadPart')
variable {prog : Program} {w : World} {A : Around} {E : Value → Shared → Prop} {s : Shared}
theorem tupNext_item {it t : Addr} {i : Nat} {items : Array Value} {x : Value} {Q : Value → Shared → Prop} (hit : s.heap.IsTupleIter it t i) (ht : s.heap.IsTuple t items) (hx : items[i]? = some x)
    (hQ : ∀ h', h'.IsTupleIter it t (i + 1) → Heap.SameBut it s.heap h' → Q x { s with heap := h' }) : wpAny (model prog w) A (Builtin.SmallTypes.nextOf (.ref it)) Q E s := by
  obtain ⟨o, ho, hc, hd⟩ := id hit
  obtain ⟨ol, hol, _, nl, hdl⟩ := ht
  unfold Builtin.SmallTypes.nextOf
  refine wpAny_bind (wpAny_callSpecial?_slot (name := Str.ofString "__next__") hit.typeIs F.slot_tuple_iterator_next
    (wpAny_call_entry F.slot_tuple_iterator_next hit.typeIs F.entry_tuple_iterator_next ?_ (F.args_tuple_iterator_next_1 _)))
  show wpAny _ _ (field (.ref it) 0 >>= _) _ _ s
  refine wpAny_bind (wpAny_field ho hd (x := .ref t) rfl ?_)
  show wpAny _ _ (if (Value.ref t == Value.none) = true then _ else _) _ _ s
  rw [if_neg (show ¬ ((Value.ref t == Value.none) = true) from Bool.false_ne_true)]
  show wpAny _ _ (field (.ref it) 1 >>= _) _ _ s
  refine wpAny_bind (wpAny_field ho hd (x := .int i 0) rfl ?_)
  show wpAny _ _ (seqItems? (.ref t) >>= _) _ _ s
  refine wpAny_bind (wpAny_seqItems hol hdl ?_)
  simp only [Int.toNat_natCast, hx]
  refine wpAny_bind (wpAny_setField ho hd (by simp) (wpAny_pure ⟨x, rfl, wpAny_pure (hQ _ ?_ (Heap.SameBut.update ..))⟩))
  exact ⟨_, Heap.get?_update_self _ ho (Obj.isFreed_of_fields (Obj.data_mapFields hd _)), (Obj.cls_mapFields ..).trans hc, by
    rw [Obj.data_mapFields hd]; simp [rawInt]⟩
theorem tupNext_end {it t : Addr} {i : Nat} {items : Array Value} {Q : Value → Shared → Prop} (hh : A.handled = none) (hit : s.heap.IsTupleIter it t i) (ht : s.heap.IsTuple t items) (hx : items[i]? = none)
    (hE : ∀ h' e, Heap.ExtBut it s.heap h' → (∃ o, h'.get? e = some o ∧ o.cls = .type "StopIteration") → E (.ref e) { s with heap := h' }) : wpAny (model prog w) A (Builtin.SmallTypes.nextOf (.ref it)) Q E s := by
  obtain ⟨o, ho, hc, hd⟩ := id hit
  obtain ⟨ol, hol, _, nl, hdl⟩ := ht
  unfold Builtin.SmallTypes.nextOf
  refine wpAny_bind (wpAny_callSpecial?_slot (name := Str.ofString "__next__") hit.typeIs F.slot_tuple_iterator_next
    (wpAny_call_entry F.slot_tuple_iterator_next hit.typeIs F.entry_tuple_iterator_next ?_ (F.args_tuple_iterator_next_1 _)))
  show wpAny _ _ (field (.ref it) 0 >>= _) _ _ s
  refine wpAny_bind (wpAny_field ho hd (x := .ref t) rfl ?_)
  show wpAny _ _ (if (Value.ref t == Value.none) = true then _ else _) _ _ s
  rw [if_neg (show ¬ ((Value.ref t == Value.none) = true) from Bool.false_ne_true)]
  show wpAny _ _ (field (.ref it) 1 >>= _) _ _ s
  refine wpAny_bind (wpAny_field ho hd (x := .int i 0) rfl ?_)
  show wpAny _ _ (seqItems? (.ref t) >>= _) _ _ s
  refine wpAny_bind (wpAny_seqItems hol hdl ?_)
  simp only [Int.toNat_natCast, hx]
  refine wpAny_bind (wpAny_rule (wpAny_bind (wpAny_setField ho hd (by simp) ?_)))
  show wpAny _ _ (newExc (.type "StopIteration") [] >>= _) _ _ _
  refine wpAny_bind ?_
  simp only [newExc, newTuple]
  refine wpAny_bind (wpAny_newObj_type ?_ (by size_fits))
  refine wpAny_bind (m := firstArgMember _ _) (wpAny_of_eq (a := Value.none) (by first | rfl | (simp only [firstArgMember]; rfl)) ?_)
  refine wpAny_newObj_type ?_ (by size_fits)
  simp only [raiseNew]
  refine wpAny_bind (wpAny_handled ?_)
  first | rw [show A.in1.handled = none from hh] | rw [hh]
  refine wpAny_bind (wpAny_pure (wpAny_throw ?_))
  exact hE _ _ (((Heap.SameBut.update ..).extBut.push _).push _) ⟨_, Heap.get?_push_size _ rfl, rfl⟩
theorem tupAt {h h' : Heap} {it t : Addr} {i : Nat} (x : h.IsTupleIter it t i) (k : ∀ o, h.get? it = some o → h'.get? it = some o) : h'.IsTupleIter it t i := let ⟨o, ho, r⟩ := x; ⟨o, k o ho, r⟩
theorem tupOf {h h' : Heap} {t : Addr} {its : Array Value} (x : h.IsTuple t its) (k : ∀ o, h.get? t = some o → h'.get? t = some o) : h'.IsTuple t its := let ⟨o, ho, r⟩ := x; ⟨o, k o ho, r⟩
theorem drawsTup (hh : A.handled = none) (it l : Addr) (hne : l ≠ it) (items : Array Value) :
    Draws prog w A it [it, l] items.size (fun i v => items[i]? = some v) (fun i h => h.IsTupleIter it l i ∧ h.IsTuple l items) where
  live := fun _ _ st => let ⟨o, ho, _⟩ := st.1; ⟨o, ho⟩
  frame := fun _ _ _ st hk => ⟨tupAt st.1 fun o e => hk it (by simp) o e, tupOf st.2 fun o e => hk l (by simp) o e⟩
  item := fun i s Q E hi st hQ => by
    refine tupNext_item st.1 st.2 (x := items[i]) (by simp [hi]) fun h' hit' hs' => ?_
    exact hQ _ h' s.toks (by simp [hi]) ⟨hit', tupOf st.2 fun o e => hs'.extBut l o hne e⟩ hs'
  done := fun s Q E st hE => tupNext_end hh st.1 st.2 (by simp) hE
theorem meets_enumT (l : Addr) (items : Array Value) (n : Nat) (dct : Option Addr) (sl : Array (Option Value)) :
    Meets (Builtin.«enumerate.__new__» ⟨[.type "enumerate", .ref l], []⟩) (fun _ R s => s.heap.get? l = some { cls := .type "tuple", dict := dct, data := .seq items n, slots := sl } ∧
      R (.ok (.ret (.ref (s.heap.push { cls := .type "tuple_iterator", data := .fields #[.ref l, .int 0 0] }).objs.size)))
        { s with heap := (s.heap.push { cls := .type "tuple_iterator", data := .fields #[.ref l, .int 0 0] }).push { cls := .type "enumerate", data := .fields #[.none, .bool false, .ref s.heap.objs.size, rawInt 0, .none, .none] } }) :=
  .of_wp fun prog w A R s h => by
    obtain ⟨hp, g, d, tk, os⟩ := s; obtain ⟨hl, h⟩ := h
    have hsub := sub_enumerate
    have hL : Heap.IsTuple (Shared.heap ⟨hp, g, d, tk, os⟩) l items := ⟨_, hl, rfl, n, rfl⟩
    wp_walk using wpAny_loadPart' hl
    refine wpAny_stack_any fun st => wpAny_pure ?_
    split
    · rename_i c _ _ _ _ _
      cases (c == Value.type "enumerate")
      · wp_walk using wpAny_loadPart' hl, wpAny_pyIter_tuple hL
        exact ⟨_, rfl, h⟩
      · wp_walk using wpAny_loadPart' hl, wpAny_pyIter_tuple hL
        exact ⟨_, rfl, h⟩
    · wp_walk using wpAny_loadPart' hl, wpAny_pyIter_tuple hL
      exact ⟨_, rfl, h⟩
theorem call_enumT {l : Addr} {items : Array Value} {Q : Value → Shared → Prop} (hL : s.heap.IsTuple l items)
    (h : ∀ h', IsEnum h' (s.heap.objs.size + 1) s.heap.objs.size 0 .none → h'.IsTupleIter s.heap.objs.size l 0 → h'.objs.size = s.heap.objs.size + 2 →
      (∀ b o, s.heap.get? b = some o → h'.get? b = some o) → Q (.ref (s.heap.objs.size + 1)) { s with heap := h' }) :
    wpAny (model prog w) A (call (.type "enumerate") [.ref l]) Q E s := by
  obtain ⟨⟨c, dct, dt, sl⟩, hl, hc, n, hd⟩ := hL
  replace hc : c = .type "tuple" := hc
  replace hd : dt = .seq items n := hd
  subst hc hd
  refine callType_new F.called_enumerate (by decide) (F.typeCall_enumerate_1 _) (F.newCall_enumerate_1 _) (fun obj => F.args_object_init_2 obj _) F.entry_enumerate_new
    (meets_enumT l items n dct sl) ⟨hl, ?_⟩
  have hz : (s.heap.push { cls := .type "tuple_iterator", data := .fields #[.ref l, .int 0 0] }).objs.size = s.heap.objs.size + 1 := Heap.size_push ..
  show _ ∧ _
  rw [hz]
  have he : IsEnum ((s.heap.push { cls := .type "tuple_iterator", data := .fields #[.ref l, .int 0 0] }).push
      { cls := .type "enumerate", data := .fields #[.none, .bool false, .ref s.heap.objs.size, rawInt 0, .none, .none] }) (s.heap.objs.size + 1) s.heap.objs.size 0 .none := by
    have := Heap.get?_push_size (s.heap.push { cls := .type "tuple_iterator", data := .fields #[.ref l, .int 0 0] })
      (o := { cls := .type "enumerate", data := .fields #[.none, .bool false, .ref s.heap.objs.size, rawInt 0, .none, .none] }) rfl
    rw [hz] at this; exact this
  exact ⟨⟨_, he, rfl⟩, h _ he ⟨_, Heap.get?_push_of_some _ (Heap.get?_push_size _ rfl), rfl, rfl⟩ (by rw [Heap.size_push, hz]) fun b o x => Heap.get?_push_of_some _ (Heap.get?_push_of_some _ x)⟩
end
end Mine
end
section
open PySem PySem.W PySem.Calls PyProof.Rows
set_option pp.deepTerms false
set_option pp.deepTerms.threshold 8
set_option pp.proofs false
namespace Mine
set_option maxRecDepth 100000
theorem pat_58 {P : Params} {h : Heap} (X : (Mine.hd.heap_39 P).In h) : PatAt h 58 code1 := ⟨⟨_, _, _, _, 57, _, _, _, X 58 _ rfl, X 57 _ rfl, rfl, rfl, by decide +kernel⟩⟩
theorem pat_63 {P : Params} {h : Heap} (X : (Mine.hd.heap_39 P).In h) : PatAt h 63 code2 := ⟨⟨_, _, _, _, 62, _, _, _, X 63 _ rfl, X 62 _ rfl, rfl, rfl, by decide +kernel⟩⟩

theorem getMethod_pat {M : Model} {A : Around} {E : Value → Shared → Prop} {s : Shared} {h₀ : Heap} {L : Addr} {m : Str → Option Value} {K : Frag} {pa : Addr} {a b c d : Value} {ca : Addr} {pl : Sem Bool} {Q : Value × List Value → Shared → Prop} (F : Fr h₀ L s.heap m) (X : K.In h₀) (hl : K.lookup pa = some (pat a b c d ca)) (h : Q (.builtin "re.Pattern.sub", [.ref pa]) s) :
    wpAny M A (getMethod (.ref pa) "sub" pl) Q E s :=
  getMethod_builtin ⟨_, (X.keeps F.keep) _ _ hl, rfl⟩ plain_pat2 slot_sub type_sub (fun a e => by cases e; exact ⟨_, (X.keeps F.keep) _ _ hl, rfl⟩) h

theorem eolA_len : ∀ (l : List Nat) (b : Bool), (eolA b l).length ≤ 2 * l.length
  | [], _ => Nat.zero_le _
  | c :: l, b => by
    have h1 := eolA_len l true
    have h2 := eolA_len l false
    show (if c = 13 then 13 :: 10 :: eolA true l else if c = 10 then (if b = true then eolA false l else 13 :: 10 :: eolA false l) else c :: eolA false l).length ≤ _
    rw [List.length_cons]
    split
    · simp only [List.length_cons]; omega
    · split
      · split
        · omega
        · simp only [List.length_cons]; omega
      · simp only [List.length_cons]; omega
section
variable {prog : Program} {w : World} {A : Around} {E : Value → Shared → Prop} {s : Shared} {h₀ : Heap} {L : Addr} {m : Str → Option Value} {news : List (Addr × Obj)} {P : Params} {Q : Value → Shared → Prop}
theorem sub_63 {data : Str} {t u : Tok} (F : Fr h₀ L s.heap m) (N : News h₀ L s.heap news) (X : (Mine.hd.heap_39 P).In h₀) (hsz : data.cps.size ≤ 2 ^ 20)
    (h : ∀ t h' tk', Fr h₀ L h' m → News h₀ L h' news → Q (.str ⟨(eolF data.cps.toList).toArray⟩ t) { s with heap := h', toks := tk' }) :
    wpAny (model prog w) A (call (.builtin "re.Pattern.sub") [.ref 63, .str (Str.ofString "\x0d\n") u, .str data t]) Q E s :=
  sub_call F2 (repl := Str.ofString "\x0d\n") hsz (by decide +kernel) (by decide +kernel) (by rw [show (Str.ofString "\x0d\n").cps.toList = [13, 10] by decide +kernel]; exact sub2_whole data.cps) (pat_63 (X.keeps F.keep)) fun h' tk' t' up => h t' h' tk' (F.keeps up) (N.grown up)
theorem sub_58 {data : Str} {t u : Tok} (F : Fr h₀ L s.heap m) (N : News h₀ L s.heap news) (X : (Mine.hd.heap_39 P).In h₀) (hsz : data.cps.size ≤ 2 ^ 20)
    (h : ∀ t h' tk', Fr h₀ L h' m → News h₀ L h' news → Q (.str ⟨(stuffF true data.cps.toList).toArray⟩ t) { s with heap := h', toks := tk' }) :
    wpAny (model prog w) A (call (.builtin "re.Pattern.sub") [.ref 58, .str (Str.ofString "..") u, .str data t]) Q E s :=
  sub_call F1 (repl := Str.ofString "..") hsz (by decide +kernel) (by decide +kernel) (by rw [show (Str.ofString "..").cps.toList = [46, 46] by decide +kernel]; exact sub1_whole data.cps) (pat_58 (X.keeps F.keep)) fun h' tk' t' up => h t' h' tk' (F.keeps up) (N.grown up)
end

set_option maxHeartbeats 1000000 in
theorem quotedata_c {w : World} {pv : Program} {lv : List Str} {mean : ExcName → Option Value} {mg mb : Str → Option Value} (dp un : Nat) (gd : Option (List Code)) (cn : Str) (cs : Scope) (a : Addr) (ccd : Value) (cl : List (Str × Addr)) (outer : List Env) (A₀ : Around) (base h₀ : Heap) (L : Addr) (m : Str → Option Value) (news : List (Addr × Obj)) (s : Shared) (Q E : Value → Shared → Prop)
   (B : Below A₀ base outer h₀) (F : Fr h₀ L s.heap m) (X : (Mine.hd.heap_39 w.params).In h₀) (N : News h₀ L s.heap news) (T : Top pv lv mean mg mb h₀) (hk : cs.kind = .function) (hdp : dp + 3 < recursionLimit) (hu : un + 24 < cLine) (data : Str) (t : Tok) (hsz : data.cps.size ≤ 2 ^ 19)
   (hret : ∀ t h' tk', Fr h₀ L h' m → News h₀ L h' news → Q (.str ⟨(stuffF true (eolF data.cps.toList)).toArray⟩ t) { s with heap := h', toks := tk' }) :
   wpAny (model P₀ w) (ktrTop dp un gd cn cs L a ccd cl outer) (call (.ref 70) [.str data t]) Q E s := by
  w_top off
  k_with_none
  k_with "call builtin:re.Pattern.sub" => (k_here; k_dflt (first | refine' sub_63 ?Fk9 ?Nk9 ?Xk9 ?zk9 ?_ | refine' sub_58 ?Fk9 ?Nk9 ?Xk9 ?zk9 ?_); (case Fk9 => k_asm); (case Nk9 => k_asm); (case Xk9 => k_asm); (case zk9 => first | omega | (have := eolA_len (PySem.Str.cps (by assumption)).toList false; simp only [eolF, List.size_toArray]; simp at this; omega)); walk_at "w9")
  k_with "getMethod ref" => (k_here; (with_reducible show wpAny _ _ (getMethod (Value.ref _) (PySem.Str.ofString "sub") _) _ _ _); k_dflt (first | refine' getMethod_pat (pa := 58) ?Fk9 ?Xk9 ?lk9 ?_ | refine' getMethod_pat (pa := 63) ?Fk9 ?Xk9 ?lk9 ?_); (case Fk9 => k_asm); (case Xk9 => k_asm); (case lk9 => rfl))
  refine wpAny_call ?_
  k_dflt cell_enter
  k_steps
  exact hret _ _ _ (by k_asm) (by k_asm)
end Mine
end
section
open PySem PySem.W PySem.Calls PyProof.Rows PySem.Spec
namespace Mine
set_option maxRecDepth 100000
theorem kts_memX {env : Env} {L b : Addr} {outer : List Env} (hf : env.frame = some L) (hm : b ∈ (env :: outer).filterMap (·.frame)) : b = L ∨ b ∈ outer.filterMap (·.frame) := by
  obtain ⟨e, he, hfe⟩ := List.mem_filterMap.mp hm
  rcases List.mem_cons.mp he with rfl | he
  · rw [hf] at hfe; exact .inl (Option.some.inj hfe).symm
  · exact .inr (List.mem_filterMap.mpr ⟨e, he, hfe⟩)
section
variable {prog : Program} {w : World} {A₀ A : Around} {s : Shared} {base h₀ : Heap} {L : Addr} {m : Str → Option Value} {env : Env} {outer : List Env} {news : List (Addr × Obj)} {K : Frag} {p : Program} {loose : List Str} {mean : ExcName → Option Value} {mg mb : Str → Option Value}
    {R : Result → Shared → Prop} {name qual : Str} {params : Arguments} {body : List Stmt} {scope : Scope} {dV kV doc pm cdv ct oc : Value} {an od : Option Addr} {osl : Array (Option Value)} {f : Addr} {args : Args} {binds : List (Str × Value)}
theorem kts_enterX (B : Below A₀ base outer h₀) (F : Fr h₀ L s.heap m) (N : News h₀ L s.heap news) (hA : A.frames = some (env :: outer)) (hfr : env.frame = some L) (hck : env.scope.kind = .function) :
    ∃ oL es ep, (hideAll s.heap (news.map (·.1))).get? L = some oL ∧ oL.data = .dict es ep ∧ (∀ h', h'.get? L = some oL → Heap.Ns h' L m) ∧ (∀ (sl : Array (Option Value)) h', h'.get? L = some { oL with slots := sl } → Heap.Ns h' L m) ∧
      h₀.StaysIn (hideAll s.heap (news.map (·.1))) ∧ Below A base (env :: outer) (hideAll s.heap (news.map (·.1))) := by
  have nm : ∀ b o, h₀.get? b = some o → b ∉ news.map (·.1) := fun b o e q => by
    obtain ⟨p, hp, rfl⟩ := List.mem_map.mp q
    rw [(N p hp).2.2] at e; cases e
  have st : h₀.StaysIn (hideAll s.heap (news.map (·.1))) := fun b o e => hideAll_get _ (F.keep b o e) (nm b o e)
  obtain ⟨oL, es, ep, hL, hLd, hLk, hLf⟩ := F.ns
  have nL : L ∉ news.map (·.1) := fun q => by
    obtain ⟨p, hp, e⟩ := List.mem_map.mp q
    exact (N p hp).2.1 e
  have hLg := hideAll_get (news.map (·.1)) hL nL
  have B₁ := pushX B F hfr hck
  exact ⟨oL, es, ep, hLg, hLd, fun h' e => ⟨oL, es, ep, e, hLd, hLk, hLf⟩, fun sl h' e => ⟨_, es, ep, e, hLd, hLk, hLf⟩, st, ⟨hA, fun b o e => st b o (B.stays b o e), funFrames_hideAll B₁.frames fun e' he b hb hf => by
    cases he with
    | head => exact nL (by rw [hfr] at hf; exact (Option.some.inj hf : L = b) ▸ hb)
    | tail _ he =>
      obtain ⟨L₁, o₁, hf₁, ho₁⟩ := funFrames_in B.frames e' he
      rw [hf₁] at hf
      exact nm L₁ o₁ ho₁ ((Option.some.inj hf : L₁ = b) ▸ hb)⟩⟩

theorem code_defS0X (B : Below A₀ base [] h₀) (F : Fr h₀ L s.heap m) (X₀ : K.In h₀) (N : News h₀ L s.heap news) (T : Top p loose mean mg mb h₀) (hA : A.frames = some [env]) (hfr : env.frame = some L)
    (ho : K.lookup f = some ⟨oc, od, .func (fnOf name qual params body scope dV kV doc pm an cdv ct), osl⟩) (hcd : codeIn K cdv qual = true) (hroom : A.depth < recursionLimit)
    (hbind : BindsTo s (fnOf name qual params body scope dV kV doc pm an cdv ct) args binds) (hloc : ∀ y ∈ binds, scope.names.lookup y.1 = some .local)
    (h : ∀ g L' h₁, Fr h₀ L g m → Fr g L' h₁ (fun y => binds.reverse.lookup y) → News g L' h₁ news → Below A base [env] g → K.In g → Top p loose mean mg mb g → KtsDicts ([env].filterMap (·.frame)) g → (∀ p ∈ news, p.1 < L') →
      wpAny (model prog w) (A.deeper (envOf qual scope L' f cdv)) (execs body (envOf qual scope L' f cdv))
        (fun fl s' => LeaveS0 ([env].filterMap (·.frame)) h₀ L m g R (match fl with | .ret v => v | _ => .none) s')
        (fun e s' => wpAny (model prog w) (A.deeper (envOf qual scope L' f cdv)) (leaving (envOf qual scope L' f cdv) e) (fun _ s'' => R (.error e) s'') (fun e' s'' => R (.error e') s'') s')
        { s with heap := h₁, toks := s.toks + binds.length })
    (hck : env.scope.kind = .function) (hco : scope.isCoroutine = false) (hgen : scope.isGenerator = false) (hk : scope.kind = .function)
    (hcell : ∀ x ∈ scope.names, x.2 ≠ .cell) : codeAny (model prog w) A (.call (.ref f) args) R s := by
  have X := X₀.keeps F.keep
  refine codeAny_call_def (fd := fnOf name qual params body scope dV kV doc pm an cdv ct) (body := body) (binds := binds) hroom (X _ _ ho) rfl (T.nolimit.keeps F.keep) (codeRec_of X hcd) rfl hbind hcell hloc (fun h₁ hns hk₁ => ?_) hco hgen hk
  obtain ⟨oL, es, ep, hLg, hLd, hN, hNs, st, B₂⟩ := kts_enterX B F N hA hfr hck
  refine wpAny_mono (h _ s.heap.objs.size h₁ ⟨hN _ hLg, st, F.above⟩ ⟨hns, fun b o e => hk₁ b o (of_hideAll _ e), Nat.le_of_eq (hideAll_size _ _)⟩
    (fun p hp => ⟨hk₁ _ _ (N p hp).1, Nat.ne_of_lt (Heap.lt_size (N p hp).1), hideAll_none _ (List.mem_map_of_mem hp)⟩) B₂ (X₀.keeps st) (T.keeps st) (fun b hb => by
      rcases kts_memX hfr hb with rfl | z
      · exact ⟨oL, es, ep, hLg, hLd⟩
      · simp at z) (fun p hp => Heap.lt_size (N p hp).1)) (fun fl s' hl => ?_) fun _ _ y => y
  obtain ⟨g', L', m', news', T', F', N', k⟩ := hl
  have nL₀ : h₀.get? L = none := kts_self F
  obtain ⟨sl, hs⟩ := T'.up hLg
  refine k ⟨hNs sl _ (F'.keep _ _ hs), fun b o e => F'.keep b o (T'.other b o (st b o e) (fun q => by
    rcases kts_memX hfr q with z | z
    · rw [z, nL₀] at e
      cases e
    · simp at z)), F.above⟩ fun p hp => ⟨(N' p hp).1, fun q => ?_, ?_⟩
  · have := (N' p hp).2.2; rw [q, hs] at this; cases this
  · cases q : h₀.get? p.1 with
    | none => rfl
    | some o =>
      obtain ⟨sl', hs'⟩ := T'.up (st _ _ q)
      have := (N' p hp).2.2
      rw [hs'] at this
      cases this
end
end Mine
end
section
open PySem PySem.W PySem.Calls PyProof.Rows PySem.Spec
set_option pp.deepTerms false
set_option pp.deepTerms.threshold 8
set_option pp.proofs false
namespace Mine
set_option maxRecDepth 100000

inductive Told : List Nat → Int → List (Int × Int) → Prop
  | nil {d} : Told [] d []
  | dot {d r o} : Told r (d + 1) o → Told (46 :: r) d o
  | feed {d r o} : Told r d o → Told (10 :: r) d o
  | row {c d r o} : 66 ≤ c → c ≤ 69 → Told r 0 o → Told (c :: 13 :: r) d ((((c : Int) - 64) * 64 + 13, d) :: o)

theorem told_lt {l : List Nat} {d : Int} {o : List (Int × Int)} (h : Told l d o) : ∀ c ∈ l, c < 128 := by
  induction h with
  | nil => intro c hc; cases hc
  | dot _ ih => intro c hc; rcases List.mem_cons.mp hc with rfl | hc; decide; exact ih c hc
  | feed _ ih => intro c hc; rcases List.mem_cons.mp hc with rfl | hc; decide; exact ih c hc
  | row h1 h2 _ ih =>
    intro c hc
    rcases List.mem_cons.mp hc with rfl | hc
    · omega
    · rcases List.mem_cons.mp hc with rfl | hc
      · decide
      · exact ih c hc
abbrev tupO (a b : Int) (ta tb : Tok) : Obj := { cls := .type "tuple", data := .seq #[.int a ta, .int b tb] }

theorem code_at {ys : List Value} {codes rest : List Nat} {i c : Nat} (hA : IntsAre ys (codes.map Int.ofNat)) (h : codes.drop i = c :: rest) : ∃ t, ys.toArray[i]? = some (.int (c : Int) t) ∧ codes.drop (i + 1) = rest := by
  have h1 : codes[i]? = some c := by
    have := congrArg List.head? h
    simpa [List.head?_drop] using this
  obtain ⟨t, ht⟩ := hA.get i (c : Int) (by simp [h1])
  refine ⟨t, by simpa using ht, ?_⟩
  have := congrArg List.tail h
  simpa using this
theorem news_tup {g h : Heap} {L a : Addr} {x y d : Int} {ta tb : Tok} {rest : List (Addr × Obj)} (e : x = y) (N : News g L h ((a, tupO x d ta tb) :: rest)) : News g L h ((a, tupO y d ta tb) :: rest) := e ▸ N
theorem news_perm {g h : Heap} {L : Addr} {a b c d : Addr × Obj} {T : List (Addr × Obj)} (N : News g L h (a :: b :: c :: d :: T)) : News g L h (b :: c :: d :: a :: T) := fun p hp => N p (by
  simp only [List.mem_cons] at hp ⊢
  rcases hp with h | h | h | h | h <;> simp [h])
/-- the tuples told so far -/
noncomputable def Rel (D : Addr) (T : List (Addr × Obj)) : List Value → List (Int × Int) → Prop
  | [], [] => True
  | r :: rs, v :: vs => (∃ a ta tb, r = .ref a ∧ D < a ∧ (a, tupO v.1 v.2 ta tb) ∈ T) ∧ Rel D T rs vs
  | _, _ => False
theorem Rel.more {D : Addr} {T : List (Addr × Obj)} {x : Addr × Obj} : ∀ {rs : List Value} {vs : List (Int × Int)}, Rel D T rs vs → Rel D (x :: T) rs vs
  | [], [], _ => trivial
  | r :: rs, v :: vs, ⟨⟨a, ta, tb, h1, h2, h3⟩, h⟩ => ⟨⟨a, ta, tb, h1, h2, List.mem_cons_of_mem _ h3⟩, Rel.more h⟩
  | [], _ :: _, h => h.elim
  | _ :: _, [], h => h.elim
theorem Rel.snoc {D : Addr} {T : List (Addr × Obj)} {a : Addr} {ta tb : Tok} {x y : Int} (hD : D < a) (hm : (a, tupO x y ta tb) ∈ T) : ∀ {rs : List Value} {vs : List (Int × Int)}, Rel D T rs vs → Rel D T (rs ++ [.ref a]) (vs ++ [(x, y)])
  | [], [], _ => ⟨⟨a, ta, tb, rfl, hD, hm⟩, trivial⟩
  | r :: rs, v :: vs, ⟨h1, h⟩ => ⟨h1, Rel.snoc hD hm h⟩
  | [], _ :: _, h => h.elim
  | _ :: _, [], h => h.elim


theorem isExc_Stop : isSubtype (.type "StopIteration") (.type "BaseException") = pure true := by rw [isSubtype_type]; kernel_rfl
theorem notTuple_Stop : isSubtype (.type ((Manifest.find? "StopIteration").elim "type" fun x => x.metatype)) (.type "tuple") = pure false := by
  rw [show ((Manifest.find? "StopIteration").elim "type" fun x => x.metatype) = "type" from by kernel_rfl, isSubtype_type]; kernel_rfl
section
variable {prog : Program} {w : World} {A : Around} {E : Value → Shared → Prop} {s : Shared} {Q : Value → Shared → Prop} {c : Nat} {t u : Tok}
theorem tg_bits {c : Nat} (h1 : 66 ≤ c) (h2 : c ≤ 69) : Builtin.bitAnd (c : Int) 63 = (c : Int) - 64 ∧ Builtin.bitAnd (c : Int) 64 = 64 ∧ Builtin.bitOr (((c : Int) - 64) * 64) 13 = ((c : Int) - 64) * 64 + 13 := by
  have : c = 66 ∨ c = 67 ∨ c = 68 ∨ c = 69 := by omega
  rcases this with rfl | rfl | rfl | rfl <;> decide
theorem tg_and63 (h1 : 66 ≤ c) (h2 : c ≤ 69) (h : Q (.int ((c : Int) - 64) s.toks) { s with toks := s.toks + 1 }) : wpAny (model prog w) A (binaryOp .BitAnd (.int (c : Int) t) (.int 63 u)) Q E s := by
  refine and_int ?_
  rw [(tg_bits h1 h2).1]; exact h
theorem tg_and64 (h1 : 66 ≤ c) (h2 : c ≤ 69) (h : Q (.int 64 s.toks) { s with toks := s.toks + 1 }) : wpAny (model prog w) A (binaryOp .BitAnd (.int (c : Int) t) (.int 64 u)) Q E s := by
  refine and_int ?_
  rw [(tg_bits h1 h2).2.1]; exact h
theorem tg_or {a b : Int} (h1 : 66 ≤ c) (h2 : c ≤ 69) (ha : a = ((c : Int) - 64) * 64) (hb : b = 13) (h : Q (.int (((c : Int) - 64) * 64 + 13) s.toks) { s with toks := s.toks + 1 }) : wpAny (model prog w) A (inplaceOp .BitOr (.int a t) (.int b u)) Q E s := by
  refine ior_int ?_
  rw [ha, hb, (tg_bits h1 h2).2.2]; exact h
theorem tg_eq {a b : Int} (e : a ≠ b) (h : Q (.bool false) s) : wpAny (model prog w) A (compareOp .Eq (.int a t) (.int b u)) Q E s := by
  refine eq_int ?_
  rw [beq_eq_false_iff_ne.mpr e]; exact h
theorem tg_ne {a b : Int} (e : a ≠ b) (h : Q (.bool true) s) : wpAny (model prog w) A (compareOp .NotEq (.int a t) (.int b u)) Q E s := by
  refine ne_int ?_
  rw [bne_iff_ne.mpr e]; exact h
end
local macro_rules | `(tactic| k_all) => `(tactic| assumption)
local macro_rules | `(tactic| k_room) => `(tactic| ktr_room)
set_option maxHeartbeats 2000000 in
theorem told_c {w : World} {pv : Program} {lv : List Str} {mean : ExcName → Option Value} {mg mb : Str → Option Value} (dp un : Nat) (gd : Option (List Code)) (cn : Str) (cs : Scope) (a : Addr) (ccd : Value) (cl : List (Str × Addr)) (A₀ : Around) (base h₀ : Heap) (L : Addr) (m : Str → Option Value) (news : List (Addr × Obj)) (s : Shared) (Q E : Value → Shared → Prop)
   (B : Below A₀ base [] h₀) (F : Fr h₀ L s.heap m) (X : (Mine.hd.heap_39 w.params).In h₀) (N : News h₀ L s.heap news) (T : Top pv lv mean mg mb h₀) (XB : (Mine.hd.heap_39 w.params).In base) (TB : Top pv lv mean mg mb base) (hk : cs.kind = .function) (hdp : dp + 3 < recursionLimit) (hu : un + 24 < cLine) (mail : Str) (t : Tok) (hsz : mail.cps.size ≤ 2 ^ 19)
   (out : List (Int × Int)) (hT : Told mail.cps.toList 0 out)
   (hret : ∀ (D : Addr) (refs : List Value) (n : Nat) (TT : List (Addr × Obj)) h' tk', Fr h₀ L h' m → News h₀ L h' ((D, listOf refs.toArray n) :: TT) → (∀ p ∈ news, p ∈ TT) → (∀ p ∈ TT, p.1 ≠ D) → (∀ p ∈ news, p.1 < D) → Rel D TT refs out → Q (.ref D) { s with heap := h', toks := tk' }) :
   wpAny (model P₀ w) (ktrTop dp un gd cn cs L a ccd cl []) (call (.ref 75) [.str mail t]) Q E s := by
  w_top off
  k_with_none
  k_with "eval ListComp" => (k_here; (with_reducible show wpAny _ _ (eval (Expr.ListComp (Expr.Call (Expr.Name (Str.ofString "ord") _) _ _ _) _ _ _) _) _ _ _); k_dflt (refine ListComp_S (F₀ := by k_asm) (by rfl) (by decide) (by rfl) (by decide) (by rfl) ?_))
  k_with "call builtin:iter" => (k_here; k_dflt (refine' iter_list ?Fk9 ?Nk9 ?lk9 ?_; (case Fk9 => k_asm); (case Nk9 => k_asm); (case lk9 => k_mem)); walk_at "w6")
  k_with "exec While" => ((with_reducible show wpAny _ _ (exec (Stmt.While (Expr.Constant _ _ _) _ _ _) _) _ _ _); refine Mark.out ?_)
  k_with "WhlRest" => ((with_reducible show WhlRest _ _ _ _ _ (Expr.Constant _ _ _) _ _ _ _ _); refine Mark.out ?_)
  k_with "inplaceOp BitOr int int" => ((with_reducible rename _ ≤ 69 => h9); k_here; k_dflt (refine' tg_or ?ak9 ?bk9 ?ck9 ?dk9 ?_; (case ak9 => with_reducible assumption); (case bk9 => with_reducible assumption); (case ck9 => rfl); (case dk9 => decide)))
  k_with "compareOp Eq int int" => ((with_reducible rename _ ≤ 69 => h9); k_here; refine' tg_eq ?ek9 ?_; (case ek9 => omega))
  k_with "compareOp NotEq int int" => ((with_reducible rename _ ≤ 69 => h9); k_here; refine' tg_ne ?ek9 ?_; (case ek9 => omega))
  k_with "binaryOp BitAnd int int" => ((with_reducible rename _ ≤ 69 => h9); k_here; first | (with_reducible refine tg_and63 (by assumption) (by assumption) ?_) | (with_reducible refine tg_and64 (by assumption) (by assumption) ?_))
  k_with "exec While" => ((with_reducible rename _ ≤ 69 => h9); k_here; k_dflt (refine whl_start 100 ?_))
  k_with "noteFrame ref" => (refine Mark.out ?_)
  k_with "call builtin:next" => (k_here; k_dflt (refine' next_end ?hk9 ?Fk9 ?Nk9 ?Uk9 ?lk9 ?xk9 ?_; (case hk9 => rfl); (case Fk9 => k_asm); (case Nk9 => k_asm); (case Uk9 => k_upd); (case lk9 => k_mem); (case xk9 => assumption)); walk_at "w10")
  k_with "call builtin:next" => (k_here; k_dflt (refine' next_item ?Fk9 ?Nk9 ?Uk9 ?lk9 ?xk9 ?_; (case Fk9 => k_asm); (case Nk9 => k_asm); (case Uk9 => k_upd); (case lk9 => k_mem); (case xk9 => assumption)); walk_at "w11")
  refine wpAny_call ?_
  k_dflt (refine' code_defS0X ?k1 ?k2 ?k3 ?k4 ?k5 ?kA ?kf ?k6 ?k7 ?k8 ?k9 ?kB ?_ ?cK ?c2 ?c3 ?c4 ?c5; (case kA => exact rfl); (case kf => exact rfl); (case k2 => k_asm); (case k1 => k_asm); (case k3 => k_asm); (case k4 => k_asm); (case k5 => k_asm); (case k6 => k_is); (case k7 => k_is); (case k8 => ktr_room); (case k9 => exact BindsTo.of_eq rfl); (case kB => exact locs rfl); (case cK => assumption); (case c2 => exact rfl); (case c3 => exact rfl); (case c4 => exact rfl); (case c5 => decide); k_whole; intro g' L' h' FG' F' N' B' X' T' D' l0; (try dsimp only); (try k_lift B'); (try k_fold))
  k_steps
  have hall : mail.cps.all (· < 128) = true := by
    rw [Array.all_eq_true']
    intro c hc
    exact decide_eq_true (told_lt hT c (by simpa using hc))
  refine ⟨mail, t, news, rfl, rfl, F', N', by rw [sizeLine_eq]; omega, hall, fun s₂ h₂ => ?_⟩
  obtain ⟨gg, rfl⟩ := h₂
  refine rest_map (G := fun i y => ∃ t c, mail.cps.toList[i]? = some c ∧ y = .int (c : Int) t) trivial mail.cps.size ?_ ?_ _ 0 [] (Nat.zero_add _) rfl (fun j hj => absurd hj (Nat.not_lt_zero _))
  · intro i v I oI C oC D m₂ h tk ys E' hP hC hx F2 N2
    obtain ⟨c, u, hc, rfl⟩ := hP
    k_steps
    any_goals k_asm
    all_goals simpa using hc
  · intro ys hl hG
    have hA : IntsAre ys (mail.cps.toList.map Int.ofNat) := intsAre_of (by simpa using hl) fun j hj => by
      obtain ⟨t, c, h1, h2⟩ := hG j hj
      exact ⟨t, c, h1, h2⟩
    k_steps
    unfold Mark
    refine whl_start 0 ?_
    rename_i Dl hh5 tkx o1 I hh4 l1 hh3 tky Tl hh2 l2 hh1 hh Fz Nz
    refine use_loop (fun σ => ∃ (rest : List Nat) (d : Int) (o : List (Int × Int)) (i : Nat) (h : Heap) (tk1 : Nat) (m₁ : Str → Option Value) (refs : List Value) (vals : List (Int × Int)) (n : Nat) (TT : List (Addr × Obj)) (td : Tok),
      σ = { s with heap := h, toks := tk1 } ∧ Told rest d o ∧ mail.cps.toList.drop i = rest ∧ 0 ≤ d ∧ d ≤ i ∧ i ≤ 2 ^ 19 ∧ m₁ (Str.ofString "tape") = some (.ref I) ∧ m₁ (Str.ofString "told") = some (.ref Tl) ∧ m₁ (Str.ofString "dots") = some (.int d td) ∧ refs.length ≤ i ∧
      Fr g' L' h m₁ ∧ News g' L' h ((Tl, listOf refs.toArray n) :: (I, iterO Dl i) :: (Dl, LCg.lst ys) :: TT) ∧ (∀ p ∈ news, p ∈ TT) ∧ (∀ p ∈ TT, p.1 ≠ Tl) ∧ (∀ p ∈ TT, p.1 ≠ I) ∧ (∀ p ∈ TT, p.1 ≠ Dl) ∧ Rel Tl TT refs vals ∧ vals ++ o = out) ?_ ?_
    · refine ⟨mail.cps.toList, 0, out, 0, _, _, _, [], [], 0, news, _, rfl, hT, rfl, by omega, by omega, by omega, rfl, rfl, rfl, Nat.le_refl _, Fz, Nz, fun p hp => hp, ?_, ?_, ?_, trivial, rfl⟩
      · intro p hp
        exact Nat.ne_of_lt (allLt_mem l2.2.2 p hp)
      · intro p hp
        exact Nat.ne_of_lt (allLt_mem l1.2 p hp)
      · exact off1_mem o1
    · rintro σ ⟨rest, d, o, i, h, tk1, m₁, refs, vals, n, TT, td, rfl, hTold, hdrop, hd0, hdi, hi19, e1, e2, e3, hrl, Fm, Nm, hsub, ho1, ho2, ho3, hrel, hout⟩
      clear Fz Nz
      induction hTold generalizing i h tk1 m₁ refs vals n TT td with
      | @nil d =>
        replace Fm := fr_set (x := Str.ofString "dots") (v := .int d td) (fr_set (x := Str.ofString "told") (v := .ref Tl) (fr_set (x := Str.ofString "tape") (v := .ref I) Fm e1) (by with_unfolding_all exact e2)) (by with_unfolding_all exact e3)
        have hx : ys.toArray[i]? = none := by
          have h1 : mail.cps.toList.length ≤ i := List.drop_eq_nil_iff.mp hdrop
          have h2 : ys.length = mail.cps.size := hl
          simp at h1 ⊢
          omega
        refine whl_turn (k := 0) (by passes_own) ?_
        k_steps
        unfold Mark
        (k_here; (rename RaisedSN _ _ _ _ _ _ _ => rsX); ((with_reducible show wpAny _ _ (noteFrame _ _) (fun _ s₂ => wpAny _ _ (setFlight _ none) (fun _ s₃ => wpAny _ _ (handleBy _ _ (ExceptHandler.ExceptHandler (some (Expr.Name ("StopIteration" : Str) _)) none _ _ :: _)) _ _ s₃) _ s₂) _ _); k_dflt (refine' caught_SN0 (T' := "StopIteration") ?R ?F ?K ?U ?XB ?TB ?D ?T0 ?ex PyProof.Rows.Boot.«StopIteration» ?hn isExc_Stop notTuple_Stop ?hs ?_; (case R => assumption); (case F => assumption); (case K => assumption); (case U => assumption); (case XB => assumption); (case TB => assumption); (case D => assumption); (case T0 => first | assumption | exact KtsTurn.refl); (case hs => kts_sub); (case ex => k_is); (case hn => decide); k_whole); intro h' g' T' F' N' K' X' P' D'; (try k_lift K'); (try k_sweep)))
        k_steps
        have hv : vals = out := by simpa using hout
        subst hv
        refine hret Tl refs n ((I, iterE i) :: (Dl, LCg.lst ys) :: TT) _ _ (by k_asm) (by k_asm) (fun p hp => List.mem_cons_of_mem _ (List.mem_cons_of_mem _ (hsub p hp))) ?_ (fun p hp => allLt_mem l2.2.2 p hp) hrel.more.more
        intro p hp
        rcases List.mem_cons.mp hp with rfl | hp
        · exact Nat.ne_of_lt l2.1
        · rcases List.mem_cons.mp hp with rfl | hp
          · exact Nat.ne_of_lt l2.2.1
          · exact ho1 p hp
      | @dot d r o hr ih =>
        replace Fm := fr_set (x := Str.ofString "dots") (v := .int d td) (fr_set (x := Str.ofString "told") (v := .ref Tl) (fr_set (x := Str.ofString "tape") (v := .ref I) Fm e1) (by with_unfolding_all exact e2)) (by with_unfolding_all exact e3)
        obtain ⟨tc, hx, hdrop'⟩ := code_at hA hdrop
        refine whl_turn (k := 0) (by passes_own) ?_
        k_steps
        have hlen : i < mail.cps.size := by
          have := congrArg List.length hdrop
          simp at this
          omega
        unfold Mark
        refine' ih (i + 1) _ _ _ refs vals n TT _ hdrop' ?a ?b ?c ?e1 ?e2 ?e3 ?r ?F ?N hsub ho1 ho2 ho3 hrel hout
        case F => k_asm
        case N => k_asm
        case a => omega
        case b => omega
        case c => omega
        case r => omega
        case e1 => with_unfolding_all rfl
        case e2 => with_unfolding_all rfl
        case e3 => with_unfolding_all rfl
      | @feed d r o hr ih =>
        replace Fm := fr_set (x := Str.ofString "dots") (v := .int d td) (fr_set (x := Str.ofString "told") (v := .ref Tl) (fr_set (x := Str.ofString "tape") (v := .ref I) Fm e1) (by with_unfolding_all exact e2)) (by with_unfolding_all exact e3)
        obtain ⟨tc, hx, hdrop'⟩ := code_at hA hdrop
        refine whl_turn (k := 0) (by passes_own) ?_
        k_steps
        have hlen : i < mail.cps.size := by
          have := congrArg List.length hdrop
          simp at this
          omega
        unfold Mark
        refine' ih (i + 1) _ _ _ refs vals n TT _ hdrop' ?a ?b ?c ?e1 ?e2 ?e3 ?r ?F ?N hsub ho1 ho2 ho3 hrel hout
        case F => k_asm
        case N => k_asm
        case a => omega
        case b => omega
        case c => omega
        case r => omega
        case e1 => with_unfolding_all rfl
        case e2 => with_unfolding_all rfl
        case e3 => with_unfolding_all rfl
      | @row c d r o hc1 hc2 hr ih =>
        replace Fm := fr_set (x := Str.ofString "dots") (v := .int d td) (fr_set (x := Str.ofString "told") (v := .ref Tl) (fr_set (x := Str.ofString "tape") (v := .ref I) Fm e1) (by with_unfolding_all exact e2)) (by with_unfolding_all exact e3)
        obtain ⟨tc, hx, hdrop'⟩ := code_at hA hdrop
        obtain ⟨td2, hx2, hdrop2⟩ := code_at hA hdrop'
        have hlen : i < mail.cps.size := by
          have := congrArg List.length hdrop
          simp at this
          omega
        have hlen2 : i + 1 < mail.cps.size := by
          have := congrArg List.length hdrop'
          simp at this
          omega
        refine whl_turn (k := 0) (by passes_own) ?_
        k_steps
        rename_i Da hq1 lq hq2 hq3 Fq Nq
        unfold Mark
        have N4 := news_perm Nq
        rw [List.push_toArray] at N4
        refine' ih (i + 1 + 1) _ _ _ (refs ++ [.ref Da]) (vals ++ [(((c : Int) - 64) * 64 + 13, d)]) (n + 1) _ _ hdrop2 (by omega) (by omega) ?_ ?_ ?_ ?_ ?_ Fq N4 (fun p hp => List.mem_cons_of_mem _ (hsub p hp)) (off_cons lq.1 ho1) (off_cons lq.2.1 ho2) (off_cons lq.2.2.1 ho3) (Rel.snoc lq.1 (List.Mem.head _) hrel.more) (by simpa using hout)
        any_goals (with_unfolding_all rfl)
        all_goals first
          | omega
          | (simp only [List.length_append, List.length_singleton]; omega)
end Mine
end
section
open PySem PySem.W PySem.Calls PyProof.Rows PySem.Spec
open LCg (NsObj lst lst_snoc ns_obj)
set_option maxRecDepth 100000
set_option maxHeartbeats 2000000
namespace Mine
section
variable {prog : Program} {w : World} {A : Around} {E : Value → Shared → Prop} {s : Shared} {h₀ : Heap} {L : Addr} {m : Str → Option Value} {env : Env}

/-- the tests of one turn -/
noncomputable def tests (ifs : List Expr) (env : Env) : Sem Bool :=
  forIn ifs true fun c r => if r = true then do let ok ← isTrue c env (eval c env); pure (ForInStep.yield ok) else pure (ForInStep.yield r)

theorem loop_pair {elt iter : Expr} {ifs : List Expr} {elts : List Expr} {x1} {tp : Pos} {scope : Scope} {pos : Pos} {it acc : Value} {env : Env} {R : Result → Shared → Prop} (I : Nat → Shared → Prop)
    (turn : ∀ n s, I n s → ∀ E' : Value → Shared → Prop, wpAny (model prog w) A (pyNext it) (fun r s₁ => match r with
      | none => R (.ok .next) s₁
      | some v => ∀ E', wpAny (model prog w) A (letOwnedTupleGo (.Tuple elts x1 tp) it v) (fun _ s₂ => ∀ E', wpAny (model prog w) A (assign (.Tuple elts x1 tp) env v) (fun _ s₃ => ∀ E',
          wpAny (model prog w) A (tests ifs env) (fun ok s₄ => if ok = true then ∀ E', wpAny (model prog w) A (eval elt env) (fun x s₅ => ∀ E',
              wpAny (model prog w) A (call (.builtin "list.append") [acc, x]) (fun _ s₆ => ∃ m, m < n ∧ I m s₆) E' s₅) E' s₄ else ∃ m, m < n ∧ I m s₄) E' s₃) E' s₂) E' s₁) E' s)
    (n : Nat) (h : I n s) : codeAny (model prog w) A (.compLoop (.ListComp elt [⟨.Tuple elts x1 tp, iter, ifs, 0⟩] scope pos) 0 it acc env) R s := by
  refine codeAny_loop rfl I (fun k s₀ hI => ?_) n h
  show wpAny _ A ((compTurn (.ListComp elt [⟨.Tuple elts x1 tp, iter, ifs, 0⟩] scope pos) 0 it acc env).onRaise (fun x => do noteFrame x env; theTreesLotGoes x)) _ _ s₀
  refine wpAny_noted ?_
  rw [compTurn_list]
  refine wpAny_bind (wpAny_standAt (wpAny_bind (wpAny_mono (turn k s₀ hI _) (fun r s₁ h₁ => ?_) fun _ _ z => z)))
  match r, h₁ with
  | none, h₁ => exact wpAny_pure h₁
  | some v, h₁ =>
    refine wpAny_bind (wpAny_mono (h₁ _) (fun _ s₂ h₂ => wpAny_bind (wpAny_mono (h₂ _) (fun _ s₃ h₃ => wpAny_bind (wpAny_mono (h₃ _) (fun ok s₄ h₄ => ?_) fun _ _ z => z)) fun _ _ z => z)) fun _ _ z => z)
    cases ok with
    | false =>
      simp only [Bool.false_eq_true, if_false] at h₄ ⊢
      exact wpAny_bind (wpAny_pure (wpAny_pure ⟨rfl, h₄⟩))
    | true =>
      simp only [if_true] at h₄ ⊢
      exact wpAny_bind (wpAny_bind (wpAny_mono (h₄ _) (fun x s₅ h₅ => wpAny_bind (wpAny_mono (h₅ _) (fun _ s₆ h₆ => wpAny_pure (wpAny_pure ⟨rfl, h₆⟩)) fun _ _ z => z)) fun _ _ z => z))

/-- where a turn ends: the frame and the whole ledger as before -/
noncomputable def TurnEnd (h₀ : Heap) (L : Addr) (m : Str → Option Value) (s₂ : Shared) (led : List (Addr × Obj)) (G : Prop) (s' : Shared) : Prop :=
  ∃ h' tk', s' = { s₂ with heap := h', toks := tk' } ∧ Fr h₀ L h' m ∧ News h₀ L h' led ∧ G

noncomputable def Turn (prog : Program) (w : World) (A : Around) (h₀ : Heap) (L : Addr) (m : Str → Option Value) (env : Env) (elt : Expr) (ifs : List Expr) (x x₂ : Str) (scope : Scope) (cl : List (Str × Addr)) (wr : List Addr) (n : Nat) (Pt : Nat → Array Value → Prop)
    (news : List (Addr × Obj)) (J : Nat → List Value → Prop) (s₂ : Shared) : Prop :=
  ∀ i v₁ v₂ own C oC D ys m₂ h tk (E' : Value → Shared → Prop), i < n → Pt i #[v₁, v₂] → J i ys → own.map Prod.fst = wr → NsObj oC m₂ → m₂ x = some v₁ → m₂ x₂ = some v₂ → Fr h₀ L h m →
    News h₀ L h (own ++ (C, oC) :: (D, lst ys) :: news) → (∀ p ∈ news, p.1 ≠ C ∧ p.1 ≠ D) → C ≠ D → (∀ p ∈ own, p.1 ≠ C ∧ p.1 ≠ D) →
    wpAny (model prog w) A (tests ifs (compEnvC scope cl C env)) (fun ok s' => if ok = true then
        ∀ E', wpAny (model prog w) A (eval elt (compEnvC scope cl C env)) (fun y s'' => TurnEnd h₀ L m s₂ (own ++ (C, oC) :: (D, lst ys) :: news) (J (i + 1) (ys ++ [y])) s'') E' s'
      else TurnEnd h₀ L m s₂ (own ++ (C, oC) :: (D, lst ys) :: news) (J (i + 1) ys) s') E' { s₂ with heap := h, toks := tk }

theorem lne {a b : Addr} (h : @LT.lt Nat instLTNat a b) : a ≠ b := Nat.ne_of_lt h
theorem lne' {a b : Addr} (h : @LT.lt Nat instLTNat a b) : b ≠ a := Nat.ne_of_gt h
theorem own_of {h : Heap} : ∀ (wr : List Addr), (∀ b ∈ wr, ∃ o, h.get? b = some o) → ∃ own : List (Addr × Obj), own.map Prod.fst = wr ∧ ∀ p ∈ own, h.get? p.1 = some p.2
  | [], _ => ⟨[], rfl, fun _ hp => nomatch hp⟩
  | b :: wr, k => by
    obtain ⟨o, ho⟩ := k b List.mem_cons_self
    obtain ⟨own, e, r⟩ := own_of wr fun b hb => k b (List.mem_cons_of_mem _ hb)
    refine ⟨(b, o) :: own, by simp [e], fun p hp => ?_⟩
    rcases List.mem_cons.mp hp with rfl | hp
    · exact ho
    · exact r p hp

theorem block_pair {elt iter : Expr} {ifs : List Expr} {x x₂ : Str} {px px₂ tp : Pos} {tk₀} {scope : Scope} {cl : List (Str × Addr)} {pos : Pos} {s₂ : Shared} {I : Addr} {fp wr : List Addr} {n : Nat} {Pt : Nat → Array Value → Prop} {St : Nat → Heap → Prop} {Mid : Nat → Addr → Heap → Prop}
    {news : List (Addr × Obj)} {J : Nat → List Value → Prop} {RR : Value → Addr → Result → Shared → Prop}
    (W : WalksU prog w A I fp wr n Pt St Mid) (hsz : n ≤ sizeLine) (hPt : ∀ i vals, Pt i vals → ∃ v₁ v₂, vals = #[v₁, v₂]) (live : ∀ i h, St i h → ∀ b ∈ wr, ∃ o, h.get? b = some o)
    (hwr : ∀ b ∈ wr, h₀.get? b = none ∧ b ≠ L) (hcov : ∀ b ∈ fp, b ∈ wr ∨ (∃ o, h₀.get? b = some o) ∨ ∃ o, (b, o) ∈ news)
    (hcell : ∀ y ∈ scope.names, y.2 ≠ .cell) (hkind : scope.kind = .function) (hx : scope.names.lookup x = some .local) (hx₂ : scope.names.lookup x₂ = some .local) (hxx : x ≠ x₂) (hh : A.handled = none)
    (hst : St 0 s₂.heap) (hfp : ∀ b ∈ fp, b < s₂.heap.objs.size) (F : Fr h₀ L s₂.heap m) (N : News h₀ L s₂.heap news) (off : ∀ p ∈ news, p.1 ∉ wr) (hJ : J 0 [])
    (T : ∀ s', (∃ h tk, s' = { s₂ with heap := h, toks := tk }) → Turn prog w A h₀ L m env elt ifs x x₂ scope cl wr n Pt news J s')
    (hRR : ∀ D C h tk m' ys, Fr h₀ L h m → News h₀ L h ((D, lst ys) :: news) → (∀ p ∈ news, @LT.lt Nat instLTNat p.1 D) → @LT.lt Nat instLTNat L D → h.Ns C m' → h₀.get? C = none → C ≠ L → D ≠ C → (∀ p ∈ news, p.1 ≠ C) → J n ys → ys.length ≤ n → RR (.ref D) C (.ok .next) { s₂ with heap := h, toks := tk }) :
    wpAny (model prog w) A (newList []) (fun acc s₃ => wpAny (model prog w) A (newFunctionEnv scope env.globals cl [] env.qual none .none (some env)) (fun cenv s₄ =>
      codeAny (model prog w) A (.compStart (.ListComp elt [⟨.Tuple [.Name x px, .Name x₂ px₂] tk₀ tp, iter, ifs, 0⟩] scope pos) 0 (.ref I) acc { cenv with scope := relabel scope env }) (RR acc cenv.locals) s₄) E s₃) E s₂ := by
  refine wpAny_newObj_type (wpAny_newFunctionEnv hcell (by intro y hy; simp at hy) (fun h₁ hns₁ hsb₁ => ?_) hkind)
  dsimp only at hns₁ hsb₁ ⊢
  generalize hH2 : s₂.heap.push { cls := .type "list", dict := none, data := .seq ([] : List Value).toArray } = H2 at hns₁ hsb₁ ⊢
  generalize hDd : s₂.heap.objs.size = D at *
  have hC : H2.objs.size = D + 1 := by rw [← hH2, Heap.size_push, hDd]
  generalize hCd : H2.objs.size = C at *
  have hDC' : @LT.lt Nat instLTNat D C := by rw [hC]; exact Nat.lt_succ_self _
  have hDC : D ≠ C := lne hDC'
  have newD : ∀ b o, s₂.heap.get? b = some o → @LT.lt Nat instLTNat b D := fun b o e => hDd ▸ Heap.lt_size e
  have old : ∀ b o, s₂.heap.get? b = some o → h₁.get? b = some o := fun b o e => by
    have hb := newD b o e
    exact hsb₁.extBut b o (lne (Nat.lt_trans hb hDC')) (Heap.get?_push_of_some _ (hH2 ▸ Heap.get?_push_of_some _ e))
  have accD : h₁.get? D = some (lst []) := hsb₁.extBut _ _ hDC (Heap.get?_push_of_some _ (hH2 ▸ hDd ▸ Heap.get?_push_size _ rfl))
  have fresh₀ : ∀ a, @LE.le Nat instLENat D a → h₀.get? a = none := fun a ha => by
    cases e : h₀.get? a with
    | none => rfl
    | some o' => exact absurd (newD _ _ (F.keep a o' e)) (Nat.not_lt.mpr ha)
  have hD₀ := fresh₀ D (Nat.le_refl _)
  have hC₀ := fresh₀ C (Nat.le_of_lt hDC')
  have hLD : @LT.lt Nat instLTNat L D := by have := F.ns.lt; rw [hDd] at this; exact this
  have hLC : @LT.lt Nat instLTNat L C := Nat.lt_trans hLD hDC'
  have fpD : ∀ b ∈ fp, @LT.lt Nat instLTNat b D := fun b hb => hfp b hb
  have wrD : ∀ b ∈ wr, @LT.lt Nat instLTNat b D := fun b hb => fpD b (W.sub b hb)
  have newsD : ∀ p ∈ news, @LT.lt Nat instLTNat p.1 D := fun p hp => newD _ _ (N p hp).1
  have loop : ∀ s₃ : Shared, s₃ = { s₂ with heap := h₁, toks := s₂.toks + ([] : List (Str × Value)).length } →
      codeAny (model prog w) A (.compLoop (.ListComp elt [⟨.Tuple [.Name x px, .Name x₂ px₂] tk₀ tp, iter, ifs, 0⟩] scope pos) 0 (.ref I) (.ref D) (compEnvC scope cl C env)) (RR (.ref D) C) s₃ := by
    rintro s₃ rfl
    refine loop_pair
      (fun k s' => ∃ h' tk i ys m', s' = { s₂ with heap := h', toks := tk } ∧ i ≤ n ∧ k = n + 1 - i ∧ ys.length ≤ i ∧ St i h' ∧ Fr h₀ L h' m ∧ h'.Ns C m' ∧ News h₀ L h' ((D, lst ys) :: news) ∧ J i ys) ?_ (n + 1)
      ⟨h₁, _, 0, [], _, rfl, Nat.zero_le _, rfl, Nat.le_refl _, W.frame _ _ _ hst fun b _ o e => old b o e, F.keeps old, hns₁, fun p hp => ?_, hJ⟩
    · rintro k s' ⟨h', tk, i, ys, m', rfl, hi, rfl, hyl, hst', F', hn', N', hJ'⟩ E'
      have notwr : ∀ b ∈ wr, b ≠ L ∧ b ≠ C ∧ b ≠ D := fun b hb => ⟨(hwr b hb).2, lne (Nat.lt_trans (wrD b hb) hDC'), lne (wrD b hb)⟩
      by_cases hlt : i < n
      · refine W.item i _ _ _ hlt hst' fun Tt vals h₂ tk₂ hPv hTt hMid hk₂ => ?_
        obtain ⟨v₁, v₂, rfl⟩ := hPt _ _ hPv
        intro E1
        refine W.go _ _ _ i Tt _ _ _ hMid fun h₃ hst₃ hk₃ => ?_
        intro E2
        have k3 : ∀ b o, b ∉ wr → h'.get? b = some o → h₃.get? b = some o := fun b o hb e => hk₃ b o hb (hk₂ b o hb e)
        have hT3 : h₃.IsTuple Tt #[v₁, v₂] := hTt.at fun o e => hk₃ _ o (W.apart _ _ _ hMid) e
        refine assign_Tuple_tuple hh hT3 rfl rfl fun h₄ he => ?_
        have k4 : ∀ b o, h₃.get? b = some o → h₄.get? b = some o := fun b o e => he b o (Nat.ne_of_lt (Heap.lt_size e)) e
        have hn4 : h₄.Ns C m' := (hn'.at' fun o e => k3 _ o (fun hm => (notwr _ hm).2.1 rfl) e).at' fun o e => k4 _ o e
        refine assignInOrder_cons (wpAny_assign_Name (wpAny_storeName_local (lookup_relabel_local hx) hn4 (fun h₅ hn₅ hs₅ => ?_) (by simp [compEnvC, relabel, hkind])))
        refine assignInOrder_cons (wpAny_assign_Name (wpAny_storeName_local (lookup_relabel_local hx₂) hn₅ (fun h₆ hn₆ hs₆ => ?_) (by simp [compEnvC, relabel, hkind])))
        refine assignInOrder_nil ?_
        intro E3
        have k6 : ∀ b o, b ≠ C → h₃.get? b = some o → h₆.get? b = some o := fun b o hb e => hs₆.extBut b o hb (hs₅.extBut b o hb (k4 b o e))
        have st6 : St (i + 1) h₆ := W.frame _ _ _ hst₃ fun b hb o e => k6 b o (lne (Nat.lt_trans (fpD b hb) hDC')) e
        obtain ⟨own, hown, ho6⟩ := own_of wr (live _ _ st6)
        obtain ⟨oC, heC, hoC⟩ := ns_obj hn₆
        have ownwr : ∀ p ∈ own, p.1 ∈ wr := fun p hp => hown ▸ List.mem_map.mpr ⟨p, hp, rfl⟩
        have F6 : Fr h₀ L h₆ m := by
          refine ⟨F'.ns.at' fun o e => k6 _ o (lne hLC) (k3 _ o (fun hm => (notwr _ hm).1 rfl) e), fun b o e => ?_, F'.above⟩
          have hb : b ≠ C := fun q => by rw [q, hC₀] at e; cases e
          exact k6 b o hb (k3 b o (fun hm => by rw [(hwr b hm).1] at e; cases e) (F'.keep b o e))
        have N6 : News h₀ L h₆ (own ++ (C, oC) :: (D, lst ys) :: news) := fun p hp => by
          rcases List.mem_append.mp hp with hp | hp
          · have q := notwr _ (ownwr p hp)
            exact ⟨ho6 p hp, q.1, (hwr _ (ownwr p hp)).1⟩
          · rcases List.mem_cons.mp hp with rfl | hp
            · exact ⟨heC, lne' hLC, hC₀⟩
            · have z := N' p hp
              refine ⟨k6 _ _ ?_ (k3 _ _ ?_ z.1), z.2⟩
              · rcases List.mem_cons.mp hp with rfl | hp
                · exact hDC
                · exact lne (Nat.lt_trans (newsD p hp) hDC')
              · rcases List.mem_cons.mp hp with rfl | hp
                · exact fun hm => (notwr _ hm).2.2 rfl
                · exact off p hp
        have back : ∀ {s5 : Shared} {G : Prop}, TurnEnd h₀ L m { s₂ with heap := h₆, toks := tk₂ + 1 + 1 } (own ++ (C, oC) :: (D, lst ys) :: news) G s5 →
            ∃ h7 tk7, s5 = { s₂ with heap := h7, toks := tk7 } ∧ Fr h₀ L h7 m ∧ News h₀ L h7 ((D, lst ys) :: news) ∧ St (i + 1) h7 ∧ (∃ m7, h7.Ns C m7) ∧ G := by
          rintro s5 G ⟨h7, tk7, rfl, F7, N7, hG⟩
          refine ⟨h7, tk7, rfl, F7, fun p hp => N7 p (List.mem_append_right _ (List.mem_cons_of_mem _ hp)), ?_, ⟨_, hoC.ns (N7 (C, oC) (List.mem_append_right _ List.mem_cons_self)).1⟩, hG⟩
          refine W.frame _ _ _ st6 fun b hb o e => ?_
          rcases hcov b hb with hm | ⟨o', e'⟩ | ⟨o', hm⟩
          · rw [← hown] at hm
            obtain ⟨p, hp, rfl⟩ := List.mem_map.mp hm
            rw [ho6 p hp] at e; cases e
            exact (N7 p (List.mem_append_left _ hp)).1
          · rw [F6.keep _ _ e'] at e; cases e
            exact F7.keep _ _ e'
          · rw [(N6 _ (List.mem_append_right _ (List.mem_cons_of_mem _ (List.mem_cons_of_mem _ hm)))).1] at e; cases e
            exact (N7 _ (List.mem_append_right _ (List.mem_cons_of_mem _ (List.mem_cons_of_mem _ hm)))).1
        have key := T { s₂ with heap := h₆, toks := tk₂ + 1 + 1 } ⟨h₆, _, rfl⟩
        unfold Turn at key
        have key2 := key i v₁ v₂ own C oC D ys _ h₆ (tk₂ + 1 + 1) E3 hlt hPv hJ' hown hoC (by simp [hxx]) (by simp) F6 N6 (fun p hp => ⟨lne (Nat.lt_trans (newsD p hp) hDC'), lne (newsD p hp)⟩) (lne' hDC') (fun p hp => (notwr _ (ownwr p hp)).2)
        refine wpAny_mono key2 (fun ok s5 h5 => ?_) fun _ _ z => z
        cases ok with
        | false =>
          simp only [Bool.false_eq_true, if_false] at h5 ⊢
          obtain ⟨h7, tk7, rfl, F7, N7, st7, ⟨m7, n7⟩, hG⟩ := back h5
          exact ⟨n + 1 - (i + 1), by omega, h7, tk7, i + 1, ys, m7, rfl, hlt, rfl, by omega, st7, F7, n7, N7, hG⟩
        | true =>
          simp only [if_true] at h5 ⊢
          intro E5
          refine wpAny_mono (h5 E5) (fun y s7 h7' => ?_) fun _ _ z => z
          obtain ⟨h7, tk7, rfl, F7, N7, st7, ⟨m7, n7⟩, hG⟩ := back h7'
          intro E7
          refine append_at (hsz := by show ys.toArray.size ≤ sizeLine; rw [List.size_toArray]; exact Nat.le_trans hyl (Nat.le_trans hi hsz)) (N7 (D, lst ys) List.mem_cons_self).1 fun h8 hs8 hD8 => ?_
          refine ⟨n + 1 - (i + 1), by omega, h8, tk7, i + 1, ys ++ [y], m7, rfl, hlt, rfl, by rw [List.length_append, List.length_singleton]; omega,
            W.frame _ _ _ st7 fun b hb o e => hs8.extBut b o (lne (fpD b hb)) e, F7.change hs8 (lne' hLD) hD₀, n7.sameBut hs8 (lne' hDC'), fun p hp => ?_, hG⟩
          rcases List.mem_cons.mp hp with rfl | hp
          · exact ⟨hD8.trans (congrArg some (lst_snoc ys y)), lne' hLD, hD₀⟩
          · have z := N7 p (List.mem_cons_of_mem _ hp)
            exact ⟨hs8.extBut _ _ (lne (newsD p hp)) z.1, z.2⟩
      · obtain rfl : i = n := Nat.le_antisymm hi (Nat.not_lt.mp hlt)
        refine W.done _ _ _ hst' fun h₂ tk₂ hk₂ => ?_
        have F2 : Fr h₀ L h₂ m := ⟨F'.ns.at' fun o e => hk₂ _ o (fun hm => (notwr _ hm).1 rfl) e, fun b o e => hk₂ b o (fun hm => by rw [(hwr b hm).1] at e; cases e) (F'.keep b o e), F'.above⟩
        refine hRR D C h₂ tk₂ m' ys F2 (fun p hp => ⟨hk₂ _ _ ?_ (N' p hp).1, (N' p hp).2⟩) newsD hLD (hn'.at' fun o e => hk₂ _ o (fun hm => (notwr _ hm).2.1 rfl) e) hC₀ (lne' hLC) hDC (fun p hp => lne (Nat.lt_trans (newsD p hp) hDC')) hJ' hyl
        rcases List.mem_cons.mp hp with rfl | hp
        · exact fun hm => (notwr _ hm).2.2 rfl
        · exact off p hp
    · rcases List.mem_cons.mp hp with rfl | hp
      · exact ⟨accD, lne' hLD, hD₀⟩
      · exact ⟨old _ _ (N p hp).1, (N p hp).2⟩
  exact codeAny_compStart_list (loop _ rfl) (W.self 0 _ _ _ (W.frame _ _ _ hst fun b _ o e => old b o e) (loop _ rfl))
end
end Mine
end
section
open PySem PySem.W PySem.Calls PyProof.Rows PySem.Spec
open LCg (NsObj lst lst_snoc ns_obj)
set_option maxRecDepth 100000
set_option maxHeartbeats 1000000
namespace Mine
section
variable {prog : Program} {w : World} {A : Around} {E : Value → Shared → Prop} {s : Shared} {h₀ : Heap} {L : Addr} {m : Str → Option Value} {env : Env}

theorem fresh_of {h₀ h : Heap} {a : Addr} (k : ∀ b o, h₀.get? b = some o → h.get? b = some o) (ha : @LE.le Nat instLENat h.objs.size a) : h₀.get? a = none := by
  cases e : h₀.get? a with
  | none => rfl
  | some o' => exact absurd (Heap.lt_size (k _ _ e)) (Nat.not_lt.mpr ha)

noncomputable def EnumAt (h₀ : Heap) (L : Addr) (m : Str → Option Value) (news : List (Addr × Obj)) (n : Nat) (Itm : Nat → Value → Prop) (s : Shared) (xv : Value) (s₁ : Shared) : Prop :=
  ∃ l items news₁ h₁ tk₁ s₀, xv = .ref (s₀ + 1) ∧ s₁ = { s with heap := h₁, toks := tk₁ } ∧ IsEnum h₁ (s₀ + 1) s₀ 0 .none ∧ h₁.IsTupleIter s₀ l 0 ∧ h₁.IsTuple l items ∧ h₁.objs.size = s₀ + 2 ∧ Fr h₀ L h₁ m ∧ News h₀ L h₁ news ∧ News h₀ L h₁ news₁ ∧
      @LT.lt Nat instLTNat l s₀ ∧ @LT.lt Nat instLTNat L s₀ ∧ (∀ p ∈ news, @LT.lt Nat instLTNat p.1 s₀) ∧ (∀ p ∈ news₁, @LT.lt Nat instLTNat p.1 s₀) ∧ @LE.le Nat instLENat h₀.objs.size s₀ ∧ ((∃ o, h₀.get? l = some o) ∨ ∃ o, (l, o) ∈ news₁) ∧ items.size = n ∧ ∀ i v, items[i]? = some v → Itm i v
theorem enum_src {news : List (Addr × Obj)} {n : Nat} {Itm : Nat → Value → Prop} {l : Addr} {items : Array Value} {k : Nat} {s₁ : Shared} (hs : ∃ h tk, s₁ = { s with heap := h, toks := tk }) (F : Fr h₀ L s₁.heap m) (N : News h₀ L s₁.heap ((l, { cls := .type "tuple", data := .seq items k }) :: news))
    (hn : items.size = n) (hi : ∀ i v, items[i]? = some v → Itm i v) : wpAny (model prog w) A (call (.type "enumerate") [.ref l]) (EnumAt h₀ L m news n Itm s) E s₁ := by
  obtain ⟨g, tk, rfl⟩ := hs
  have z := (N _ List.mem_cons_self).1
  have lt : ∀ {b : Addr} {o : Obj}, g.get? b = some o → @LT.lt Nat instLTNat b g.objs.size := fun e => Heap.lt_size e
  refine call_enumT ⟨_, z, rfl, _, rfl⟩ fun h' hE hI hz hk => ?_
  refine ⟨l, items, [(l, { cls := .type "tuple", data := .seq items k })], h', tk, g.objs.size, rfl, rfl, hE, hI, ⟨_, hk _ _ z, rfl, _, rfl⟩, hz, F.keeps hk, fun p hp => ⟨hk _ _ (N p (List.mem_cons_of_mem _ hp)).1, (N p (List.mem_cons_of_mem _ hp)).2⟩,
    fun p hp => ?_, lt z, F.ns.lt, fun p hp => lt (N p (List.mem_cons_of_mem _ hp)).1, fun p hp => ?_, ?_, .inr ⟨_, List.mem_singleton.mpr rfl⟩, hn, hi⟩
  · rw [List.mem_singleton.mp hp]; exact ⟨hk _ _ z, (N _ List.mem_cons_self).2⟩
  · rw [List.mem_singleton.mp hp]; exact lt z
  · exact Nat.le_trans F.above (Nat.le_of_lt F.ns.lt)
/-- enumerate of a tuple, met by a comprehension over pairs -/
theorem ListComp_PE {elt iter : Expr} {x x₂ : Str} {px px₂ tp : Pos} {tk₀} {scope : Scope} {cl : List (Str × Addr)} {pos : Pos} {Q : Value → Shared → Prop} {news : List (Addr × Obj)} (_F : Fr h₀ L s.heap m) (_N : News h₀ L s.heap news)
    (hclos : closureFor scope env = pure cl) (hcell : ∀ y ∈ scope.names, y.2 ≠ .cell) (hkind : scope.kind = .function)
    (hnames : ∀ y ∈ scope.names, y.2 = .local → scope.names.lookup y.1 = some .local) (hx : scope.names.lookup x = some .local) (hx₂ : scope.names.lookup x₂ = some .local) (hxx : x ≠ x₂) (hh : A.handled = none)
    (n : Nat) (Itm : Nat → Value → Prop) (J : Nat → List Value → Prop) (hsz : n ≤ sizeLine) (hJ : J 0 [])
    (h : wpAny (model prog w) A (eval iter env) (EnumAt h₀ L m news n Itm s) E s)
    (T : ∀ news₁ (s' : Shared) (wr : List Addr), (∃ h tk, s' = { s with heap := h, toks := tk }) → (∃ a b, wr = [a, b]) → (∀ p ∈ news, p ∈ news₁) → Turn prog w A h₀ L m env elt [] x x₂ scope cl wr n (fun i vals => ∃ t x, Itm i x ∧ vals = #[.int i t, x]) news₁ J s')
    (fin : ∀ D h tk ys, Fr h₀ L h m → News h₀ L h ((D, lst ys) :: news) → (∀ p ∈ news, @LT.lt Nat instLTNat p.1 D) → @LT.lt Nat instLTNat L D → J n ys → Q (.ref D) { s with heap := h, toks := tk })
    (hs : ∀ x, foldedSetIterable iter env x = pure x := by intro _; rfl) :
    wpAny (model prog w) A (eval (.ListComp elt [⟨.Tuple [.Name x px, .Name x₂ px₂] tk₀ tp, iter, [], 0⟩] scope pos) env) Q E s := by
  rw [eval_ListComp]
  refine wpAny_comprehension_free (use := none) rfl hs hclos hkind hnames (wpAny_mono h (fun xv s₁ h₁ => ?_) fun _ _ e => e)
  obtain ⟨l, items, news₁, g, tk₁, c, rfl, rfl, hE, hI, hT, hz, F1, N1, N2, hlc, hLc, hnc, hnc1, h0c, hl, rfl, hIt⟩ := h₁
  refine wpAny_pyIter_enum hE ?_
  have hc0 : h₀.get? c = none := by
    cases e : h₀.get? c with
    | none => rfl
    | some o' => exact absurd (Heap.lt_size e) (Nat.not_lt.mpr h0c)
  have hc1 : h₀.get? (c + 1) = none := by
    cases e : h₀.get? (c + 1) with
    | none => rfl
    | some o' => exact absurd (Heap.lt_size e) (Nat.not_lt.mpr (Nat.le_succ_of_le h0c))
  have n1 : ∀ {b : Addr}, @LT.lt Nat instLTNat b c → b ≠ c + 1 := fun hb => lne (Nat.lt_succ_of_lt hb)
  have N3 : News h₀ L g (news ++ news₁) := fun p hp => by
    rcases List.mem_append.mp hp with hp | hp
    · exact N1 p hp
    · exact N2 p hp
  have hn3 : ∀ p ∈ news ++ news₁, @LT.lt Nat instLTNat p.1 c := fun p hp => by
    rcases List.mem_append.mp hp with hp | hp
    · exact hnc p hp
    · exact hnc1 p hp
  refine block_pair (J := J) (news := news ++ news₁) (h₀ := h₀) (L := L) (m := m) (WalksT.enumerateD (drawsTup (A := A.in1) hh c l (lne hlc) items) (c + 1) (lne' (Nat.lt_succ_self _)) ?_ (by simp)).toU hsz ?_ ?_ ?_ ?_ hcell hkind hx hx₂ hxx hh ?_ ?_ F1 N3 ?_ hJ ?_ ?_
  · simp only [List.mem_cons, List.not_mem_nil, or_false, not_or]
    exact ⟨lne' (Nat.lt_succ_self c), (n1 hlc).symm⟩
  · rintro i vals ⟨t, v, _, rfl⟩; exact ⟨_, _, rfl⟩
  · rintro i h ⟨⟨old, he⟩, hst⟩ b hb
    rcases List.mem_cons.mp hb with rfl | hb
    · exact ⟨_, he⟩
    · rw [List.mem_singleton.mp hb]
      obtain ⟨o, ho, _⟩ := hst.1; exact ⟨o, ho⟩
  · intro b hb
    rcases List.mem_cons.mp hb with rfl | hb
    · exact ⟨hc1, (n1 hLc).symm⟩
    · rw [List.mem_singleton.mp hb]; exact ⟨hc0, lne' hLc⟩
  · intro b hb
    rcases List.mem_cons.mp hb with rfl | hb
    · exact .inl List.mem_cons_self
    · rcases List.mem_cons.mp hb with rfl | hb
      · exact .inl (List.mem_cons_of_mem _ List.mem_cons_self)
      · rw [List.mem_singleton.mp hb]
        exact .inr (hl.imp id fun ⟨o, hm⟩ => ⟨o, List.mem_append_right _ hm⟩)
  · exact ⟨⟨_, hE⟩, hI, hT⟩
  · intro b hb
    show @LT.lt Nat instLTNat b g.objs.size
    rw [hz]
    rcases List.mem_cons.mp hb with rfl | hb
    · exact Nat.lt_succ_self _
    · rcases List.mem_cons.mp hb with rfl | hb
      · exact Nat.lt_succ_of_lt (Nat.lt_succ_self _)
      · rw [List.mem_singleton.mp hb]; exact Nat.lt_trans hlc (Nat.lt_succ_of_lt (Nat.lt_succ_self _))
  · intro p hp hm
    rcases List.mem_cons.mp hm with e | hm
    · exact n1 (hn3 p hp) e
    · exact lne (hn3 p hp) (List.mem_singleton.mp hm)
  · rintro s' ⟨h, tk, rfl⟩
    have key := T (news ++ news₁) { s with heap := h, toks := tk } [c + 1, c] ⟨h, tk, rfl⟩ ⟨_, _, rfl⟩ fun p hp => List.mem_append_left _ hp
    intro i v₁ v₂ own C oC D ys m₂ h₂ tk₂ E' hi hP
    refine key i v₁ v₂ own C oC D ys m₂ h₂ tk₂ E' hi ?_
    obtain ⟨t, v, hv, e⟩ := hP
    exact ⟨t, v, hIt _ _ hv, e⟩
  · intro D C h tk m' ys F' N' hnD hLD hn hC₀ hCL hDC hnC hJ' _
    refine ⟨m', hn, fun h'' hs'' => ?_⟩
    refine fin D h'' tk ys (F'.change hs'' hCL hC₀) (fun p hp => ?_) (fun p hp => hnD p (List.mem_append_left _ hp)) hLD hJ'
    rcases List.mem_cons.mp hp with rfl | hp
    · exact ⟨hs''.extBut _ _ hDC (N' _ List.mem_cons_self).1, (N' _ List.mem_cons_self).2⟩
    · have z := N' p (List.mem_cons_of_mem _ (List.mem_append_left _ hp))
      exact ⟨hs''.extBut _ _ (hnC p (List.mem_append_left _ hp)) z.1, z.2⟩
end
end Mine
end
section
open PySem PySem.W PySem.Calls PyProof.Rows PySem.Spec
set_option maxRecDepth 100000
set_option maxHeartbeats 1000000
namespace Mine
noncomputable def thenRun (k : Sem Flow) : Flow → Sem Flow
  | .next => k
  | f => pure f
theorem execs_app (l2 : List Stmt) (env : Env) : ∀ l1 : List Stmt, execs (l1 ++ l2) env = execs l1 env >>= thenRun (execs l2 env)
  | [] => by
    show execs l2 env = (pure Flow.next >>= _)
    rw [pure_bind]; rfl
  | a :: l => by
    have e1 : execs (a :: l) env = exec a env >>= thenRun (execs l env) := by
      rw [execs_cons]; congr 1
    have e2 : execs ((a :: l) ++ l2) env = exec a env >>= thenRun (execs (l ++ l2) env) := by
      show execs (a :: (l ++ l2)) env = _
      rw [execs_cons]; congr 1
    rw [e1, e2, bind_assoc, execs_app l2 env l]
    congr 1
    funext f
    cases f <;> first | rfl | (simp [thenRun, pure_bind])
section
variable {prog : Program} {w : World} {A : Around} {E : Value → Shared → Prop} {s : Shared} {env : Env}
/-- a run of statements, cut in two -/
theorem jump {l1 l2 : List Stmt} {Q : Flow → Shared → Prop} (J : Shared → Prop) (h1 : wpAny (model prog w) A (execs l1 env) (fun f s' => f = .next ∧ J s') E s)
    (h2 : ∀ s', J s' → wpAny (model prog w) A (execs l2 env) Q E s') : wpAny (model prog w) A (execs (l1 ++ l2) env) Q E s := by
  rw [execs_app]
  refine wpAny_bind (wpAny_mono h1 (fun f s' h => ?_) fun _ _ h => h)
  obtain ⟨rfl, hJ⟩ := h
  exact h2 s' hJ
end
end Mine
end
section
open PySem PySem.W PySem.Calls PyProof.Rows PySem.Spec
open LCg
set_option maxRecDepth 100000
set_option maxHeartbeats 1000000
namespace Mine
section
variable {prog : Program} {w : World} {A : Around} {E : Value → Shared → Prop} {s : Shared} {h₀ : Heap} {L : Addr} {m : Str → Option Value} {env : Env}
noncomputable def octets (b : Array UInt8) (i : Nat) (v : Value) : Prop := ∃ c t, b[i]? = some c ∧ v = .int (c.toNat : Int) t
noncomputable def SrcB (prog : Program) (w : World) (A : Around) (h₀ : Heap) (L : Addr) (m : Str → Option Value) (env : Env) (elt : Expr) (x : Str) (scope : Scope) (cl : List (Str × Addr)) (Q : Value → Shared → Prop) (xv : Value) (s₁ : Shared) : Prop :=
  ∃ b t news, xv = .bytes b t ∧ A.handled = none ∧ Fr h₀ L s₁.heap m ∧ News h₀ L s₁.heap news ∧ b.size ≤ sizeLine ∧
    ∀ s₂ : Shared, (∃ h, s₂ = { s₁ with heap := h }) → CompRest prog w A h₀ L m env elt x scope cl s₂ (fun _ => True) (octets b) (FinE h₀ L m s₂ Q) b.size 0 [] news
theorem SrcB.intro {elt : Expr} {x : Str} {scope : Scope} {cl : List (Str × Addr)} {Q : Value → Shared → Prop} {b : Array UInt8} {t : Tok} {news : List (Addr × Obj)} {s₁ : Shared} (n : Nat) (hh : A.handled = none) (F : Fr h₀ L s₁.heap m) (N : News h₀ L s₁.heap news) (hn : b.size = n) (hz : n ≤ sizeLine)
    (h : ∀ g, CompRest prog w A h₀ L m env elt x scope cl { s₁ with heap := g } (fun _ => True) (octets b) (FinE h₀ L m { s₁ with heap := g } Q) n 0 [] news) : SrcB prog w A h₀ L m env elt x scope cl Q (.bytes b t) s₁ :=
  ⟨b, t, news, rfl, hh, F, N, hn ▸ hz, fun _ ⟨g, e⟩ => by rw [e, hn]; exact h g⟩
theorem octets_at {b : Array UInt8} {i : Nat} {v : Value} (h : octets b i v) : ∃ t, v = .int ((b.getD i 0).toNat : Int) t := by
  obtain ⟨c, t, e, rfl⟩ := h
  obtain ⟨hi, rfl⟩ := Array.getElem?_eq_some_iff.mp e
  exact ⟨t, by simp [hi]⟩
theorem ListComp_B {elt iter : Expr} {x : Str} {px : Pos} {scope : Scope} {cl : List (Str × Addr)} {pos : Pos} {Q : Value → Shared → Prop} (_F : Fr h₀ L s.heap m)
    (hclos : closureFor scope env = pure cl) (hcell : ∀ y ∈ scope.names, y.2 ≠ .cell) (hkind : scope.kind = .function)
    (hnames : ∀ y ∈ scope.names, y.2 = .local → scope.names.lookup y.1 = some .local) (hx : scope.names.lookup x = some .local)
    (h : wpAny (model prog w) A (eval iter env) (SrcB prog w A h₀ L m env elt x scope cl Q) E s)
    (hs : ∀ x, foldedSetIterable iter env x = pure x := by intro _; rfl) :
    wpAny (model prog w) A (eval (.ListComp elt [⟨.Name x px, iter, [], 0⟩] scope pos) env) Q E s := by
  rw [eval_ListComp]
  refine wpAny_comprehension_free (use := none) rfl hs hclos hkind hnames (wpAny_mono h (fun xv s₁ h₁ => ?_) fun _ _ e => e)
  obtain ⟨b, t, news, rfl, hh, F, N, hsz, R⟩ := h₁
  refine KBw.pyIter_bytes ?_
  refine block_U (KBw.walks (prog := prog) (w := w) (A := A) hh s₁.heap.objs.size b t) hsz (fun i h st => ?_) (fun i h h' o nw st e e' _ _ _ => ?_) hcell hkind hx ⟨_, Heap.get?_push_size _ rfl, rfl, rfl⟩ (fun b' hb => ?_)
    (F.keeps fun _ _ e => Heap.get?_push_of_some _ e) (N.grown fun _ _ e => Heap.get?_push_of_some _ e) (Nat.ne_of_lt F.ns.lt) (next_is_new F) (fun p hp => Nat.ne_of_lt (Heap.lt_size (N p hp).1)) trivial (R _ ⟨_, rfl⟩) ?_
  · obtain ⟨o, e, _⟩ := st; exact ⟨o, e⟩
  · obtain ⟨o', e1, r⟩ := st
    have : o' = o := Option.some.inj (e1.symm.trans e)
    exact ⟨o, e', this ▸ r⟩
  · rw [List.mem_singleton.mp hb]
    show s₁.heap.objs.size < (s₁.heap.push _).objs.size
    rw [Heap.size_push]; exact Nat.lt_succ_self _
  · intro D C h tk m' ys news' F' N' o1 hn hC₀ hD₀ hCL hDL hCD offC fin
    refine ⟨m', hn, fun h'' hs'' => fin D h'' tk (F'.change hs'' hCL hC₀) (fun p hp => ?_) o1⟩
    refine ⟨hs''.extBut _ _ ?_ (N' p hp).1, (N' p hp).2⟩
    rcases List.mem_cons.mp hp with rfl | hp
    · exact Ne.symm hCD
    · exact offC p hp
end
end Mine
end
section
open PySem PySem.W PySem.Calls PyProof.Rows PySem.Spec
set_option maxRecDepth 100000
set_option maxHeartbeats 1000000
namespace Mine
/-- a row of the mail: dots, then the page's letter -/
noncomputable def rowL (k d : Nat) : List Nat := List.replicate d 46 ++ [66 + k]
noncomputable def rowS (k d : Nat) : Str := ⟨(rowL k d).toArray⟩
noncomputable def up (d : Nat) : Nat := if d = 0 then 0 else d + 1
noncomputable def mailL (a b c d : Nat) : List Nat := rowL 0 a ++ 13 :: 10 :: (rowL 1 b ++ 13 :: 10 :: (rowL 2 c ++ 13 :: 10 :: (rowL 3 d ++ [13, 10])))
noncomputable def rows5 (a b c d : Nat) : List Str := [rowS 0 a, rowS 1 b, rowS 2 c, rowS 3 d, Str.ofString ""]
theorem rowL_ends {k d : Nat} (hk : k < 4) : ∀ c ∈ rowL k d, isEnd c = false := by
  intro c hc
  rcases List.mem_append.mp hc with h | h
  · rw [(List.mem_replicate.mp h).2]; rfl
  · rw [List.mem_singleton.mp h]
    match k, hk with
    | 0, _ => rfl
    | 1, _ => rfl
    | 2, _ => rfl
    | 3, _ => rfl
theorem rowL_not10 {k d : Nat} (r : List Nat) (hk : k < 4) : ∀ r', rowL k d ++ r ≠ 10 :: r' := by
  intro r' e
  have h : ∀ c ∈ (rowL k d).head?, c = 10 := by
    intro c hc
    cases hr : rowL k d with
    | nil => rw [hr] at hc; cases hc
    | cons x y => rw [hr] at hc e; cases hc; exact (List.cons.inj e).1
  unfold rowL at h
  cases d with
  | zero => exact absurd (h (66 + k) (by simp)) (by omega)
  | succ d => exact absurd (h 46 (by simp [List.replicate_succ])) (by decide)
theorem eol_row {k d : Nat} (hk : k < 4) (r : List Nat) : eolF (rowL k d ++ r) = rowL k d ++ eolF r := eolF_free _ _ (rowL_ends hk)
theorem eol_n (r : List Nat) : eolF (10 :: r) = 13 :: 10 :: eolF r := by
  unfold eolF; rfl
theorem eol_r (r : List Nat) (h : ∀ r', r ≠ 10 :: r') : eolF (13 :: r) = 13 :: 10 :: eolF r := by
  unfold eolF
  show 13 :: 10 :: eolA true r = _
  rw [eolA_other r h]
theorem eol_rn (r : List Nat) : eolF (13 :: 10 :: r) = 13 :: 10 :: eolF r := by
  unfold eolF; rfl
theorem stuff_row_go {k : Nat} (hk : k < 4) (r : List Nat) : ∀ d, stuffF false (rowL k d ++ 13 :: 10 :: r) = rowL k d ++ 13 :: 10 :: stuffF true r
  | 0 => by
    show stuffF false ((66 + k) :: 13 :: 10 :: r) = _
    match k, hk with
    | 0, _ => rfl
    | 1, _ => rfl
    | 2, _ => rfl
    | 3, _ => rfl
  | d + 1 => by
    show stuffF false (46 :: (rowL k d ++ 13 :: 10 :: r)) = 46 :: (rowL k d ++ _)
    rw [← stuff_row_go hk r d]
    rfl
theorem stuff_row {k : Nat} (hk : k < 4) (d : Nat) (r : List Nat) : stuffF true (rowL k d ++ 13 :: 10 :: r) = rowL k (up d) ++ 13 :: 10 :: stuffF true r := by
  cases d with
  | zero =>
    show stuffF true ((66 + k) :: 13 :: 10 :: r) = (66 + k) :: 13 :: 10 :: stuffF true r
    match k, hk with
    | 0, _ => rfl
    | 1, _ => rfl
    | 2, _ => rfl
    | 3, _ => rfl
  | succ d =>
    show stuffF true (46 :: (rowL k d ++ 13 :: 10 :: r)) = 46 :: 46 :: (rowL k d ++ 13 :: 10 :: stuffF true r)
    rw [← stuff_row_go hk r d]
    rfl
theorem mail_up (a b c d : Nat) : stuffF true (mailL a b c d) = mailL (up a) (up b) (up c) (up d) := by
  unfold mailL
  rw [stuff_row (by decide), stuff_row (by decide), stuff_row (by decide), show rowL 3 d ++ [13, 10] = rowL 3 d ++ 13 :: 10 :: [] from rfl, stuff_row (by decide)]
  rfl
theorem rowS_list (k d : Nat) : (rowS k d).cps.toList = rowL k d := rfl
theorem join_rows (sep : Str) (a b c d : Nat) : (Txt.join sep (rows5 a b c d)).cps.toList =
    rowL 0 a ++ (sep.cps.toList ++ (rowL 1 b ++ (sep.cps.toList ++ (rowL 2 c ++ (sep.cps.toList ++ (rowL 3 d ++ (sep.cps.toList ++ []))))))) := by
  unfold Txt.join Builtin.Str.glued rows5
  simp only [List.drop, List.foldl, List.headD, Array.toList_append, rowS_list, show (Str.ofString "").cps.toList = [] from rfl, List.append_assoc]
theorem mail_n (a b c d : Nat) : stuffF true (eolF (Txt.join (Str.ofString "\n") (rows5 a b c d)).cps.toList) = mailL (up a) (up b) (up c) (up d) := by
  rw [join_rows, show (Str.ofString "\n").cps.toList = [10] from rfl, ← mail_up]
  simp only [eol_row (show 0 < 4 by decide), eol_row (show 1 < 4 by decide), eol_row (show 2 < 4 by decide), eol_row (show 3 < 4 by decide), List.cons_append, List.nil_append, eol_n]
  rfl
theorem mail_r (a b c d : Nat) : stuffF true (eolF (Txt.join (Str.ofString "\r") (rows5 a b c d)).cps.toList) = mailL (up a) (up b) (up c) (up d) := by
  rw [join_rows, show (Str.ofString "\r").cps.toList = [13] from rfl, ← mail_up]
  simp only [List.cons_append, List.nil_append]
  rw [eol_row (by decide), eol_r _ (rowL_not10 _ (by decide)), eol_row (by decide), eol_r _ (rowL_not10 _ (by decide)), eol_row (by decide), eol_r _ (rowL_not10 _ (by decide)), eol_row (by decide), eol_r _ (by intro r' e; cases e)]
  rfl
theorem mail_rn (a b c d : Nat) : stuffF true (eolF (Txt.join (Str.ofString "\r\n") (rows5 a b c d)).cps.toList) = mailL (up a) (up b) (up c) (up d) := by
  rw [join_rows, show (Str.ofString "\r\n").cps.toList = [13, 10] from rfl, ← mail_up]
  simp only [eol_row (show 0 < 4 by decide), eol_row (show 1 < 4 by decide), eol_row (show 2 < 4 by decide), eol_row (show 3 < 4 by decide), List.cons_append, List.nil_append, eol_rn]
  rfl
theorem told_row {k : Nat} (hk : k < 4) (r : List Nat) (o : List (Int × Int)) (h : Told r 0 o) : ∀ (d : Nat) (n : Int), Told (rowL k d ++ 13 :: 10 :: r) n (((((66 + k : Nat) : Int) - 64) * 64 + 13, n + d) :: o)
  | 0, n => by
    show Told ((66 + k) :: 13 :: 10 :: r) n _
    rw [show n + ((0 : Nat) : Int) = n by omega]
    exact .row (by omega) (by omega) (.feed h)
  | d + 1, n => by
    show Told (46 :: (rowL k d ++ 13 :: 10 :: r)) n _
    rw [show n + ((d + 1 : Nat) : Int) = n + 1 + d by omega]
    exact .dot (told_row hk r o h d (n + 1))
theorem told_mail (a b c d : Nat) : Told (mailL a b c d) 0 [(141, (a : Int)), (205, (b : Int)), (269, (c : Int)), (333, (d : Int))] := by
  have h := told_row (k := 0) (by decide) _ _ (told_row (k := 1) (by decide) _ _ (told_row (k := 2) (by decide) _ _ (told_row (k := 3) (by decide) [] [] .nil d 0) c 0) b 0) a 0
  simp only [Int.zero_add] at h
  exact h
section
open StrLaws Builtin Builtin.Str
theorem sub_list (x : Str) (i j : Nat) : (strSub x i j).cps.toList = (x.cps.toList.drop i).take (j - i) := by
  unfold strSub
  simp [List.extract_eq_take_drop]
theorem at_crlf {x : Str} {i : Nat} : At x ⟨#[13, 10]⟩ x.length i ↔ (x.cps.toList.drop i).take 2 = [13, 10] := by
  have e : subAt x ⟨#[13, 10]⟩ i = true ↔ (x.cps.toList.drop i).take 2 = [13, 10] := by
    unfold subAt
    rw [beq_iff_eq]
    have h := sub_list x i (i + 2)
    rw [Nat.add_sub_cancel_left] at h
    rw [← h]
    unfold strSub
    show x.cps.extract i (i + 2) = #[13, 10] ↔ (x.cps.extract i (i + 2)).toList = [13, 10]
    constructor
    · intro q; rw [q]
    · intro q; exact Array.ext' q
  constructor
  · exact fun h => e.mp h.2
  · intro h
    refine ⟨?_, e.mpr h⟩
    have q := congrArg List.length h
    simp only [List.length_take, List.length_drop, List.length_cons, List.length_nil] at q
    show i + 2 ≤ x.cps.size
    rw [← Array.length_toList]
    omega
theorem take2_mem {l : List Nat} (h : l.take 2 = [13, 10]) : 13 ∈ l := List.mem_of_mem_take (i := 2) (by rw [h]; exact List.mem_cons_self)
theorem parts_rows (x : Str) : ∀ (rows : List (List Nat)) (last : List Nat) (a f : Nat) (cuts : List Nat), (∀ r ∈ rows, 13 ∉ r) → 13 ∉ last →
    ChainG x ⟨#[13, 10]⟩ x.length a cuts f → (∀ k, f ≤ k → ¬ At x ⟨#[13, 10]⟩ x.length k) → a ≤ x.length → x.cps.toList.drop a = rows.flatMap (· ++ [13, 10]) ++ last →
    partsFrom x 2 a cuts = rows.map (fun r => ⟨r.toArray⟩) ++ [⟨last.toArray⟩]
  | [], last, a, f, [], _, _, _, _, ha, hd => by
    show [strSub x a x.length] = [_]
    congr 1
    have h := sub_list x a x.length
    rw [hd, List.flatMap_nil, List.nil_append] at h
    have hl := congrArg List.length hd
    simp only [List.length_drop, List.flatMap_nil, List.nil_append] at hl
    rw [List.take_of_length_le (by rw [← hl]; show x.cps.toList.length - a ≤ x.cps.size - a; rw [Array.length_toList]; exact Nat.le_refl _)] at h
    cases hs : strSub x a x.length with
    | mk c => rw [hs] at h; simp only at h; rw [← h]
  | [], last, a, f, c :: cs, _, hl, hc, _, _, hd => by
    exfalso
    have h1 := at_crlf.mp hc.2.1
    have : x.cps.toList.drop c = last.drop (c - a) := by
      rw [List.flatMap_nil, List.nil_append] at hd
      rw [← hd, List.drop_drop]
      congr 1
      have := hc.1
      omega
    rw [this] at h1
    exact hl (List.mem_of_mem_drop (take2_mem h1))
  | r :: rs, last, a, f, [], hr, _, hc, hf, _, hd => by
    exfalso
    have hfa : f = a := hc
    refine hf (a + r.length) (by omega) (at_crlf.mpr ?_)
    rw [← List.drop_drop, hd]
    simp
  | r :: rs, last, a, f, c :: cs, hr, hl, hc, hf, ha, hd => by
    have hat : At x ⟨#[13, 10]⟩ x.length (a + r.length) := by
      refine at_crlf.mpr ?_
      rw [← List.drop_drop, hd]
      simp
    have h1 : ¬ (a + r.length < c) := fun q => hc.2.2.1 _ (by omega) q hat
    have h2 : ¬ (c < a + r.length) := fun q => by
      have h1 := at_crlf.mp hc.2.1
      have e : x.cps.toList.drop c = r.drop (c - a) ++ (13 :: 10 :: (rs.flatMap (· ++ [13, 10]) ++ last)) := by
        have e1 : x.cps.toList.drop c = (x.cps.toList.drop a).drop (c - a) := by
          rw [List.drop_drop]; congr 1; have := hc.1; omega
        rw [e1, hd, List.flatMap_cons, List.append_assoc, List.append_assoc, List.drop_append_of_le_length (by have := hc.1; omega)]
        rfl
      rw [e] at h1
      cases hq : r.drop (c - a) with
      | nil => have := congrArg List.length hq; rw [List.length_drop, List.length_nil] at this; have := hc.1; omega
      | cons y z =>
        rw [hq] at h1
        have : y = 13 := by
          have := h1
          cases z <;> simp at this <;> exact this.1
        exact hr r List.mem_cons_self (List.mem_of_mem_drop (i := c - a) (by rw [hq, this]; exact List.mem_cons_self))
    have hcc : c = a + r.length := by omega
    subst hcc
    have hx : a + r.length + 2 ≤ x.length := hc.2.1.1
    show strSub x a (a + r.length) :: partsFrom x 2 (a + r.length + 2) cs = (⟨r.toArray⟩ : Str) :: _
    rw [parts_rows x rs last (a + r.length + 2) f cs (fun q hq => hr q (List.mem_cons_of_mem _ hq)) hl hc.2.2.2 hf hx ?_]
    · congr 1
      have h := sub_list x a (a + r.length)
      rw [Nat.add_sub_cancel_left, hd, List.flatMap_cons, List.append_assoc, List.append_assoc, List.take_left'  rfl] at h
      cases hs : strSub x a (a + r.length) with
      | mk c => rw [hs] at h; simp only at h; rw [← h]
    · rw [Nat.add_assoc, ← List.drop_drop, hd, List.flatMap_cons, List.append_assoc, List.append_assoc]
      rw [List.drop_append, List.drop_of_length_le (by omega)]
      simp
theorem split_rows (rows : List (List Nat)) (last : List Nat) (hr : ∀ r ∈ rows, 13 ∉ r) (hl : 13 ∉ last) (x : Str) (hx : x.cps.toList = rows.flatMap (· ++ [13, 10]) ++ last) (hk : ¬ (decide (x.length < 2) || decide (strKind x < 1)) = true) (hne : rows ≠ []) :
    Txt.split x ⟨#[13, 10]⟩ = rows.map (fun r => ⟨r.toArray⟩) ++ [⟨last.toArray⟩] := by
  obtain ⟨f, hc, hf⟩ := occ_tight x ⟨#[13, 10]⟩ (by decide)
  have key := parts_rows x rows last 0 f _ hr hl hc hf (Nat.zero_le _) (by rw [List.drop_zero]; exact hx)
  unfold Txt.split
  rw [show Str.length ⟨#[13, 10]⟩ = 2 from rfl, show Str.strKind ⟨#[13, 10]⟩ = 1 by decide +kernel, if_neg hk, if_neg, partsBetween_eq]
  · exact key
  · intro he
    have he' : occurrences x ⟨#[13, 10]⟩ 0 x.length (x.length + 1) = [] := List.isEmpty_iff.mp he
    rw [he'] at key
    cases rows with
    | nil => exact hne rfl
    | cons r rs =>
      have := congrArg List.length key
      simp [partsFrom] at this
end
theorem split_mail (a b c d : Nat) : Txt.split ⟨(mailL a b c d).toArray⟩ (Str.ofString "\r\n") = rows5 a b c d := by
  have no13 : ∀ {k d : Nat}, k < 4 → 13 ∉ rowL k d := fun hk h => by
    have := rowL_ends hk 13 h
    cases this
  have hs : mailL a b c d = [rowL 0 a, rowL 1 b, rowL 2 c, rowL 3 d].flatMap (· ++ [13, 10]) ++ [] := by
    simp [mailL]
  refine split_rows [rowL 0 a, rowL 1 b, rowL 2 c, rowL 3 d] [] (fun r hr => ?_) (by simp) ⟨(mailL a b c d).toArray⟩ hs ?_ (by simp)
  · simp only [List.mem_cons, List.not_mem_nil, or_false] at hr
    rcases hr with rfl | rfl | rfl | rfl <;> exact no13 (by decide)
  · rw [Bool.or_eq_true, decide_eq_true_eq, decide_eq_true_eq]
    rintro (h | h)
    · have : (Str.length ⟨(mailL a b c d).toArray⟩) = (mailL a b c d).length := by simp [Str.length]
      rw [this] at h
      simp [mailL] at h
      omega
    · unfold Builtin.Str.strKind at h
      split at h
      · omega
      · split at h <;> omega
end Mine
end
section
open PySem PySem.W PySem.Calls PyProof.Rows PySem.Spec
set_option maxRecDepth 100000
set_option maxHeartbeats 1000000
namespace Mine
theorem quote4 {w : World} {pv : Program} {lv : List Str} {mean : ExcName → Option Value} {mg mb : Str → Option Value} (dp un : Nat) (gd : Option (List Code)) (cn : Str) (cs : Scope) (a : Addr) (ccd : Value) (cl : List (Str × Addr)) (outer : List Env) (A₀ : Around) (base h₀ : Heap) (L : Addr) (m : Str → Option Value) (news : List (Addr × Obj)) (s : Shared) (Q E : Value → Shared → Prop)
   (B : Below A₀ base outer h₀) (F : Fr h₀ L s.heap m) (X : (Mine.hd.heap_39 w.params).In h₀) (N : News h₀ L s.heap news) (T : Top pv lv mean mg mb h₀) (hk : cs.kind = .function) (hdp : dp + 3 < recursionLimit) (hu : un + 24 < cLine) (data : Str) (t : Tok) (ml : List Nat) (hq : stuffF true (eolF data.cps.toList) = ml) (hsz : data.cps.size ≤ 2 ^ 19)
   (hret : ∀ t h' tk', Fr h₀ L h' m → News h₀ L h' news → Q (.str ⟨ml.toArray⟩ t) { s with heap := h', toks := tk' }) :
   wpAny (model P₀ w) (ktrTop dp un gd cn cs L a ccd cl outer) (call (.ref 70) [.str data t]) Q E s := by
  subst hq
  exact quotedata_c dp un gd cn cs a ccd cl outer A₀ base h₀ L m news s Q E B F X N T hk hdp hu data t hsz hret
theorem rel_four {D : Addr} {TT : List (Addr × Obj)} {p q r t : Int × Int} : ∀ {l : List Value}, Rel D TT l [p, q, r, t] → ∃ a b c d, l = [a, b, c, d]
  | [], h => h.elim
  | [_], h => h.2.elim
  | [_, _], h => h.2.2.elim
  | [_, _, _], h => h.2.2.2.elim
  | [a, b, c, d], _ => ⟨a, b, c, d, rfl⟩
  | _ :: _ :: _ :: _ :: _ :: _, h => h.2.2.2.2.elim
theorem map_five {α β : Type} {f : α → β} {p q r t u : β} : ∀ {l : List α}, l.map f = [p, q, r, t, u] → ∃ a b c d e, l = [a, b, c, d, e]
  | [], h => nomatch h
  | [_], h => nomatch (List.cons.inj h).2
  | [_, _], h => nomatch (List.cons.inj (List.cons.inj h).2).2
  | [_, _, _], h => nomatch (List.cons.inj (List.cons.inj (List.cons.inj h).2).2).2
  | [_, _, _, _], h => nomatch (List.cons.inj (List.cons.inj (List.cons.inj (List.cons.inj h).2).2).2).2
  | [a, b, c, d, e], _ => ⟨a, b, c, d, e, rfl⟩
  | _ :: _ :: _ :: _ :: _ :: _ :: _, h => nomatch (List.cons.inj (List.cons.inj (List.cons.inj (List.cons.inj (List.cons.inj h).2).2).2).2).2
theorem told4 {w : World} {pv : Program} {lv : List Str} {mean : ExcName → Option Value} {mg mb : Str → Option Value} (dp un : Nat) (gd : Option (List Code)) (cn : Str) (cs : Scope) (a : Addr) (ccd : Value) (cl : List (Str × Addr)) (A₀ : Around) (base h₀ : Heap) (L : Addr) (m : Str → Option Value) (news : List (Addr × Obj)) (s : Shared) (Q E : Value → Shared → Prop)
   (B : Below A₀ base [] h₀) (F : Fr h₀ L s.heap m) (X : (Mine.hd.heap_39 w.params).In h₀) (N : News h₀ L s.heap news) (T : Top pv lv mean mg mb h₀) (XB : (Mine.hd.heap_39 w.params).In base) (TB : Top pv lv mean mg mb base) (hk : cs.kind = .function) (hdp : dp + 3 < recursionLimit) (hu : un + 24 < cLine)
   (d₀ d₁ d₂ d₃ : Nat) (hb : d₀ ≤ 100 ∧ d₁ ≤ 100 ∧ d₂ ≤ 100 ∧ d₃ ≤ 100) (t : Tok)
   (hret : ∀ (D a₀ a₁ a₂ a₃ : Addr) (t₀ u₀ t₁ u₁ t₂ u₂ t₃ u₃ : Tok) (n : Nat) h' tk', Fr h₀ L h' m → News h₀ L h' ((D, listOf #[.ref a₀, .ref a₁, .ref a₂, .ref a₃] n) :: (a₀, tupO 141 d₀ t₀ u₀) :: (a₁, tupO 205 d₁ t₁ u₁) :: (a₂, tupO 269 d₂ t₂ u₂) :: (a₃, tupO 333 d₃ t₃ u₃) :: news) →
      (∀ p ∈ news, p.1 < D) → @LT.lt Nat _ D a₀ → @LT.lt Nat _ D a₁ → @LT.lt Nat _ D a₂ → @LT.lt Nat _ D a₃ → Q (.ref D) { s with heap := h', toks := tk' }) :
   wpAny (model P₀ w) (ktrTop dp un gd cn cs L a ccd cl []) (call (.ref 75) [.str ⟨(mailL d₀ d₁ d₂ d₃).toArray⟩ t]) Q E s := by
  refine told_c dp un gd cn cs a ccd cl A₀ base h₀ L m news s Q E B F X N T XB TB hk hdp hu ⟨(mailL d₀ d₁ d₂ d₃).toArray⟩ t ?_ _ (told_mail d₀ d₁ d₂ d₃) ?_
  · simp [mailL, rowL]; omega
  · intro D refs n TT h' tk' F' N' hsub hoff hlt hR
    obtain ⟨r₀, r₁, r₂, r₃, rfl⟩ := rel_four hR
    · obtain ⟨⟨a₀, t₀, u₀, rfl, l₀, m₀⟩, ⟨a₁, t₁, u₁, rfl, l₁, m₁⟩, ⟨a₂, t₂, u₂, rfl, l₂, m₂⟩, ⟨a₃, t₃, u₃, rfl, l₃, m₃⟩, _⟩ := hR
      refine hret D a₀ a₁ a₂ a₃ t₀ u₀ t₁ u₁ t₂ u₂ t₃ u₃ n h' tk' F' (fun p hp => N' p ?_) hlt l₀ l₁ l₂ l₃
      rcases List.mem_cons.mp hp with rfl | hp
      · exact List.mem_cons_self
      refine List.mem_cons_of_mem _ ?_
      rcases List.mem_cons.mp hp with rfl | hp
      · exact m₀
      rcases List.mem_cons.mp hp with rfl | hp
      · exact m₁
      rcases List.mem_cons.mp hp with rfl | hp
      · exact m₂
      rcases List.mem_cons.mp hp with rfl | hp
      · exact m₃
      exact hsub p hp
section
variable {prog : Program} {w : World} {A : Around} {E : Value → Shared → Prop} {s : Shared} {h₀ : Heap} {L : Addr} {m : Str → Option Value} {news : List (Addr × Obj)} {Q : Value → Shared → Prop}
theorem split5 {d₀ d₁ d₂ d₃ : Nat} {t u : Tok} (F : Fr h₀ L s.heap m) (N : News h₀ L s.heap news) (hb : d₀ ≤ 100 ∧ d₁ ≤ 100 ∧ d₂ ≤ 100 ∧ d₃ ≤ 100)
    (h : ∀ (D : Addr) (t₀ t₁ t₂ t₃ t₄ : Tok) h' tk', Fr h₀ L h' m → News h₀ L h' ((D, listOf #[.str (rowS 0 d₀) t₀, .str (rowS 1 d₁) t₁, .str (rowS 2 d₂) t₂, .str (rowS 3 d₃) t₃, .str (Str.ofString "") t₄] 0) :: news) → (∀ p ∈ news, p.1 < D) → Q (.ref D) { s with heap := h', toks := tk' }) :
    wpAny (model prog w) A (call (.builtin "str.split") [.str ⟨(mailL d₀ d₁ d₂ d₃).toArray⟩ t, .str (Str.ofString "\r\n") u]) Q E s := by
  refine splitN1A F N (by rfl) (fun l h' k e _ _ _ F' N' => ?_) (by rw [sizeLine_eq]; simp [Str.length, mailL, rowL]; omega)
  rw [split_mail] at e
  obtain ⟨⟨s₀, t₀⟩, ⟨s₁, t₁⟩, ⟨s₂, t₂⟩, ⟨s₃, t₃⟩, ⟨s₄, t₄⟩, rfl⟩ := map_five e
  · simp only [List.map_cons, List.map_nil, rows5, List.cons.injEq, and_true] at e
    obtain ⟨rfl, rfl, rfl, rfl, rfl⟩ := e
    exact h _ t₀ t₁ t₂ t₃ t₄ h' k F' N' fun p hp => Heap.lt_size (N p hp).1
end
end Mine
end
section
open PySem PySem.W PySem.Calls PyProof.Rows PySem.Spec
open LCg (NsObj lst lst_snoc ns_obj)
set_option maxRecDepth 100000
set_option maxHeartbeats 1000000
namespace Mine
/-- a list of refs to pairs of ints that lie on the ledger -/
noncomputable def Prs (T : List (Addr × Obj)) : List Value → List (Int × Int) → Prop
  | [], [] => True
  | r :: rs, v :: vs => (∃ a ta tb, r = .ref a ∧ (a, tupO v.1 v.2 ta tb) ∈ T) ∧ Prs T rs vs
  | _, _ => False
theorem Prs.mono {T T' : List (Addr × Obj)} (h : ∀ p ∈ T, p ∈ T') : ∀ {rs : List Value} {vs : List (Int × Int)}, Prs T rs vs → Prs T' rs vs
  | [], [], _ => trivial
  | _ :: _, _ :: _, ⟨⟨a, ta, tb, e, hm⟩, r⟩ => ⟨⟨a, ta, tb, e, h _ hm⟩, Prs.mono h r⟩
  | [], _ :: _, h => h.elim
  | _ :: _, [], h => h.elim
theorem Prs.length {T : List (Addr × Obj)} : ∀ {rs : List Value} {vs : List (Int × Int)}, Prs T rs vs → rs.length = vs.length
  | [], [], _ => rfl
  | _ :: _, _ :: _, ⟨_, r⟩ => by simp [Prs.length r]
  | [], _ :: _, h => h.elim
  | _ :: _, [], h => h.elim
theorem Prs.at {T : List (Addr × Obj)} : ∀ {rs : List Value} {vs : List (Int × Int)}, Prs T rs vs → ∀ j, j < rs.length → ∃ a ta tb, rs[j]? = some (.ref a) ∧ (a, tupO (vs.getD j (0, 0)).1 (vs.getD j (0, 0)).2 ta tb) ∈ T
  | [], [], _, _, h => absurd h (Nat.not_lt_zero _)
  | _ :: _, _ :: _, ⟨⟨a, ta, tb, e, hm⟩, _⟩, 0, _ => ⟨a, ta, tb, by rw [e]; rfl, hm⟩
  | _ :: rs, _ :: vs, ⟨_, r⟩, j + 1, h => Prs.at r j (Nat.lt_of_succ_lt_succ h)
  | [], _ :: _, h, _, _ => h.elim
  | _ :: _, [], h, _, _ => h.elim
theorem Prs.snoc {T : List (Addr × Obj)} {a : Addr} {ta tb : Tok} {x y : Int} (hm : (a, tupO x y ta tb) ∈ T) : ∀ {rs : List Value} {vs : List (Int × Int)}, Prs T rs vs → Prs T (rs ++ [.ref a]) (vs ++ [(x, y)])
  | [], [], _ => ⟨⟨a, ta, tb, rfl, hm⟩, trivial⟩
  | _ :: _, _ :: _, ⟨h, r⟩ => ⟨h, Prs.snoc hm r⟩
  | [], _ :: _, h => h.elim
  | _ :: _, [], h => h.elim
noncomputable def PairSrc (h₀ : Heap) (L : Addr) (m : Str → Option Value) (news : List (Addr × Obj)) (ps : List (Int × Int)) (s : Shared) (xv : Value) (s₁ : Shared) : Prop :=
  ∃ ax vs n h₁ tk₁ news₁, xv = .ref ax ∧ s₁ = { s with heap := h₁, toks := tk₁ } ∧ Fr h₀ L h₁ m ∧ News h₀ L h₁ news₁ ∧ (∀ p ∈ news, p ∈ news₁) ∧ (ax, listOf (List.toArray vs) n) ∈ news₁ ∧ Prs news₁ vs ps
noncomputable def pairAt (ps : List (Int × Int)) (i : Nat) (vals : Array Value) : Prop := ∃ t u, vals = #[.int (ps.getD i (0, 0)).1 t, .int (ps.getD i (0, 0)).2 u]
section
variable {prog : Program} {w : World} {A : Around} {E : Value → Shared → Prop} {s : Shared} {h₀ : Heap} {L : Addr} {m : Str → Option Value} {env : Env}
/-- a comprehension over a list of pairs of ints on the ledger, with or without a test -/
theorem ListComp_PL {elt iter : Expr} {ifs : List Expr} {x x₂ : Str} {px px₂ tp : Pos} {tk₀} {scope : Scope} {cl : List (Str × Addr)} {pos : Pos} {Q : Value → Shared → Prop} {news : List (Addr × Obj)} (_F : Fr h₀ L s.heap m) (_N : News h₀ L s.heap news)
    (hclos : closureFor scope env = pure cl) (hcell : ∀ y ∈ scope.names, y.2 ≠ .cell) (hkind : scope.kind = .function)
    (hnames : ∀ y ∈ scope.names, y.2 = .local → scope.names.lookup y.1 = some .local) (hx : scope.names.lookup x = some .local) (hx₂ : scope.names.lookup x₂ = some .local) (hxx : x ≠ x₂) (hh : A.handled = none)
    (ps : List (Int × Int)) (J : Nat → List Value → Prop) (hsz : ps.length ≤ 1000) (hJ : J 0 [])
    (h : wpAny (model prog w) A (eval iter env) (PairSrc h₀ L m news ps s) E s)
    (T : ∀ news₁ (s' : Shared) (I : Addr), (∃ h tk, s' = { s with heap := h, toks := tk }) → (∀ p ∈ news, p ∈ news₁) → Turn prog w A h₀ L m env elt ifs x x₂ scope cl [I] ps.length (pairAt ps) news₁ J s')
    (fin : ∀ D h tk ys, Fr h₀ L h m → News h₀ L h ((D, lst ys) :: news) → (∀ p ∈ news, @LT.lt Nat instLTNat p.1 D) → @LT.lt Nat instLTNat L D → J ps.length ys → Q (.ref D) { s with heap := h, toks := tk })
    (hs : ∀ x, foldedSetIterable iter env x = pure x := by intro _; rfl) :
    wpAny (model prog w) A (eval (.ListComp elt [⟨.Tuple [.Name x px, .Name x₂ px₂] tk₀ tp, iter, ifs, 0⟩] scope pos) env) Q E s := by
  rw [eval_ListComp]
  refine wpAny_comprehension_free (use := none) rfl hs hclos hkind hnames (wpAny_mono h (fun xv s₁ h₁ => ?_) fun _ _ e => e)
  obtain ⟨ax, vs, n, g, tk₁, news₁, rfl, rfl, F1, N1, hsub, hm, hP⟩ := h₁
  have hl : g.IsList ax vs.toArray := ⟨_, (N1 _ hm).1, rfl, n, rfl⟩
  refine wpAny_pyIter_list hl ?_
  have hlen := hP.length
  have ex : ∀ j : Nat, ∃ q : Addr × Tok × Tok, j < vs.toArray.size → vs.toArray[j]? = some (.ref q.1) ∧ (q.1, tupO (ps.getD j (0, 0)).1 (ps.getD j (0, 0)).2 q.2.1 q.2.2) ∈ news₁ := fun j => by
    by_cases hj : j < vs.length
    · obtain ⟨a, ta, tb, e, hm⟩ := hP.at j hj
      exact ⟨(a, ta, tb), fun _ => ⟨by simpa using e, hm⟩⟩
    · exact ⟨(0, 0, 0), fun q => absurd (by simpa using q) hj⟩
  obtain ⟨f, hf⟩ := Classical.axiomOfChoice ex
  have up : ∀ b o, g.get? b = some o → (g.push { cls := .type "list_iterator", data := .fields #[.ref ax, .int 0 0] }).get? b = some o := fun b o e => Heap.get?_push_of_some _ e
  have old : ∀ {b : Addr} {o : Obj}, (b, o) ∈ news₁ → @LT.lt Nat instLTNat b g.objs.size := fun hm => Heap.lt_size (N1 _ hm).1
  have hI₀ : h₀.get? g.objs.size = none := by
    cases e : h₀.get? g.objs.size with
    | none => rfl
    | some o' => exact absurd (Heap.lt_size (F1.keep _ _ e)) (Nat.lt_irrefl _)
  have hz : vs.toArray.size = ps.length := by rw [List.size_toArray, hlen]
  have W := WalksU.listOfTuples (prog := prog) (w := w) hh g.objs.size ax (lne (old hm)) vs.toArray (fun j => (f j).1) (fun j => #[.int (ps.getD j (0, 0)).1 (f j).2.1, .int (ps.getD j (0, 0)).2 (f j).2.2]) (fun j hj => (hf j hj).1) (fun j hj => lne (old (hf j hj).2))
  have TT := T news₁
  rw [← hz] at TT fin
  refine block_pair (J := J) (news := news₁) (h₀ := h₀) (L := L) (m := m) W (by rw [hz, sizeLine_eq]; omega) ?_ ?_ ?_ ?_ hcell hkind hx hx₂ hxx hh ?_ ?_ (F1.keeps up) (N1.grown up) ?_ hJ ?_ ?_
  · rintro i vals rfl; exact ⟨_, _, rfl⟩
  · rintro i h ⟨hi, _⟩ b hb
    rw [List.mem_singleton.mp hb]
    obtain ⟨o, ho, _⟩ := hi; exact ⟨o, ho⟩
  · intro b hb
    rw [List.mem_singleton.mp hb]
    exact ⟨hI₀, lne' F1.ns.lt⟩
  · intro b hb
    rcases List.mem_cons.mp hb with rfl | hb
    · exact .inl List.mem_cons_self
    rcases List.mem_cons.mp hb with rfl | hb
    · exact .inr (.inr ⟨_, hm⟩)
    · obtain ⟨j, hj, rfl⟩ := List.mem_map.mp hb
      exact .inr (.inr ⟨_, (hf j (List.mem_range.mp hj)).2⟩)
  · refine ⟨⟨_, Heap.get?_push_size _ rfl, rfl, rfl⟩, hl.push _, fun k hk => ⟨_, up _ _ (N1 _ (hf k hk).2).1, rfl, _, rfl⟩⟩
  · intro b hb
    show @LT.lt Nat instLTNat b (g.push _).objs.size
    rw [Heap.size_push]
    rcases List.mem_cons.mp hb with rfl | hb
    · exact Nat.lt_succ_self _
    rcases List.mem_cons.mp hb with rfl | hb
    · exact Nat.lt_succ_of_lt (old hm)
    · obtain ⟨j, hj, rfl⟩ := List.mem_map.mp hb
      exact Nat.lt_succ_of_lt (old (hf j (List.mem_range.mp hj)).2)
  · intro p hp hq
    exact lne (old (b := p.1) (o := p.2) hp) (List.mem_singleton.mp hq)
  · rintro s' ⟨h, tk, rfl⟩
    have key := TT { s with heap := h, toks := tk } g.objs.size ⟨h, tk, rfl⟩ hsub
    intro i v₁ v₂ own C oC D ys m₂ h₂ tk₂ E' hi hP
    exact key i v₁ v₂ own C oC D ys m₂ h₂ tk₂ E' hi ⟨_, _, hP⟩
  · intro D C h tk m' ys F' N' hnD hLD hn hC₀ hCL hDC hnC hJ' _
    refine ⟨m', hn, fun h'' hs'' => ?_⟩
    refine fin D h'' tk ys (F'.change hs'' hCL hC₀) (fun p hp => ?_) (fun p hp => hnD p (hsub p hp)) hLD hJ'
    rcases List.mem_cons.mp hp with rfl | hp
    · exact ⟨hs''.extBut _ _ hDC (N' _ List.mem_cons_self).1, (N' _ List.mem_cons_self).2⟩
    · have z := N' p (List.mem_cons_of_mem _ (hsub p hp))
      exact ⟨hs''.extBut _ _ (hnC p (hsub p hp)) z.1, z.2⟩
end
end Mine
end
section
open PySem PySem.W PySem.Calls PyProof.Rows PySem.Spec
set_option maxRecDepth 100000
namespace Mine
structure St where
  d0 : Nat
  d1 : Nat
  d2 : Nat
  d3 : Nat
  f0 : Int
  f1 : Int
  f2 : Int
  f3 : Int
  rs : List Nat
  met : List (Int × Int)
noncomputable def St0 : St := ⟨0, 0, 0, 0, 0, 0, 0, 0, [], []⟩
/-- the law's frame and ledger at the head of a turn -/
inductive Sta (H : Heap) (L sc A : Addr) (ys : List Value) (nA : Nat) (st : St) (X : List (Addr × Obj)) (v4 : Option Value) (s₀ s' : Shared) : Prop
  | mk (h : Heap) (tk : Nat) (m : Str → Option Value) (W R Fl M : Addr) (w0 w1 w2 w3 r0 r1 r2 r3 r4 u0 u1 u2 u3 tn : Tok) (mv : List Value) (nW nR nF nM : Nat) (TT : List (Addr × Obj)) (o1 o2 o3 o4 o5 o6 o7 o8 o9 : Obj) (v5 v6 v7 v8 v9 : Option Value)
    (g0 : s' = { s₀ with heap := h, toks := tk })
    (g1 : Fr H L h m)
    (g2 : News H L h (X ++ (M, listOf mv.toArray nM) :: (Fl, listOf #[.int st.f0 u0, .int st.f1 u1, .int st.f2 u2, .int st.f3 u3] nF) ::
      (R, listOf #[.str (rowS 0 st.d0) r0, .str (rowS 1 st.d1) r1, .str (rowS 2 st.d2) r2, .str (rowS 3 st.d3) r3, .str (Str.ofString "") r4] nR) ::
      (W, listOf #[.str (Str.ofString "B") w0, .str (Str.ofString "C") w1, .str (Str.ofString "D") w2, .str (Str.ofString "E") w3] nW) :: (A, listOf ys.toArray nA) ::
      (L + 1 + 1 + 1 + 1 + 1 + 1 + 1 + 1 + 1, o9) :: (L + 1 + 1 + 1 + 1 + 1 + 1 + 1 + 1, o8) :: (L + 1 + 1 + 1 + 1 + 1 + 1 + 1, o7) :: (L + 1 + 1 + 1 + 1 + 1 + 1, o6) :: (L + 1 + 1 + 1 + 1 + 1, o5) ::
      (L + 1 + 1 + 1 + 1, o4) :: (L + 1 + 1 + 1, o3) :: (L + 1 + 1, o2) :: (L + 1, o1) :: TT))
    (g3 : m (Str.ofString "words") = some (.ref W))
    (g4 : m (Str.ofString "rows") = some (.ref R))
    (g5 : m (Str.ofString "met") = some (.ref M))
    (g6 : m (Str.ofString "number") = some (.int (apV st.rs) tn))
    (g7 : o1.data = .cell (some (.ref sc)))
    (g8 : o2.data = .cell (some (.ref A)))
    (g9 : o3.data = .cell (some (.ref Fl)))
    (g10 : o4.data = .cell v4)
    (g11 : o5.data = .cell v5)
    (g12 : o6.data = .cell v6)
    (g13 : o7.data = .cell v7)
    (g14 : o8.data = .cell v8)
    (g15 : o9.data = .cell v9)
    (g16 : Prs TT mv st.met)
    (g17 : mv.length ≤ 100)
    (g18 : (@LT.lt Nat instLTNat (L + 9) A ∧ (W ≠ L + 1 + 1 + 1 ∧ W ≠ L + 1 + 1 + 1 + 1 ∧ W ≠ L + 1 + 1 + 1 + 1 + 1 ∧ W ≠ L + 1 + 1 + 1 + 1 + 1 + 1 ∧ W ≠ L + 1 + 1 + 1 + 1 + 1 + 1 + 1 ∧ W ≠ L + 1 + 1 + 1 + 1 + 1 + 1 + 1 + 1 ∧ W ≠ L + 1 + 1 + 1 + 1 + 1 + 1 + 1 + 1 + 1) ∧ @LT.lt Nat instLTNat A M ∧ @LT.lt Nat instLTNat W M ∧ @LT.lt Nat instLTNat (L + 9) R ∧ (Fl ≠ L + 1 + 1 + 1 ∧ Fl ≠ L + 1 + 1 + 1 + 1 ∧ Fl ≠ L + 1 + 1 + 1 + 1 + 1 ∧ Fl ≠ L + 1 + 1 + 1 + 1 + 1 + 1 ∧ Fl ≠ L + 1 + 1 + 1 + 1 + 1 + 1 + 1 ∧ Fl ≠ L + 1 + 1 + 1 + 1 + 1 + 1 + 1 + 1 ∧ Fl ≠ L + 1 + 1 + 1 + 1 + 1 + 1 + 1 + 1 + 1) ∧ @Ne Nat R M ∧ @Ne Nat Fl M ∧ @LT.lt Nat instLTNat (L + 9) M))
    (g19 : (∀ p ∈ TT, @LT.lt Nat instLTNat (L + 9) p.1 ∧ p.1 ≠ M))
    (g20 : st.rs.Nodup)
    (g21 : (∀ d ∈ st.rs, 1 ≤ d ∧ d ≤ 4))
    (g22 : st.rs.length ≤ 4)
    (g23 : (∀ q ∈ X, @LT.lt Nat instLTNat (L + 9) q.1 ∧ @Ne Nat q.1 M ∧ @Ne Nat q.1 Fl ∧ @Ne Nat q.1 R ∧ @Ne Nat q.1 W ∧ @Ne Nat q.1 A ∧ ∀ p ∈ TT, p.1 ≠ q.1))
theorem Sta.intro {H : Heap} {L sc A : Addr} {ys : List Value} {nA : Nat} {st : St} {X : List (Addr × Obj)} {s₀ : Shared} {h : Heap} {tk : Nat} {m : Str → Option Value} {W R Fl M : Addr} {w0 w1 w2 w3 r0 r1 r2 r3 r4 u0 u1 u2 u3 tn : Tok} {mv : List Value} {nW nR nF nM : Nat} {TT led : List (Addr × Obj)} {o1 o2 o3 o4 o5 o6 o7 o8 o9 : Obj} {v4 v5 v6 v7 v8 v9 : Option Value}
    (F : Fr H L h m) (eW : m (Str.ofString "words") = some (.ref W)) (eR : m (Str.ofString "rows") = some (.ref R)) (eM : m (Str.ofString "met") = some (.ref M)) (eN : m (Str.ofString "number") = some (.int (apV st.rs) tn))
    (d1 : o1.data = .cell (some (.ref sc))) (d2 : o2.data = .cell (some (.ref A))) (d3 : o3.data = .cell (some (.ref Fl))) (d4 : o4.data = .cell v4) (d5 : o5.data = .cell v5) (d6 : o6.data = .cell v6) (d7 : o7.data = .cell v7) (d8 : o8.data = .cell v8) (d9 : o9.data = .cell v9)
    (N : News H L h led) (sub : ∀ p ∈ X ++ (M, listOf mv.toArray nM) :: (Fl, listOf #[.int st.f0 u0, .int st.f1 u1, .int st.f2 u2, .int st.f3 u3] nF) ::
      (R, listOf #[.str (rowS 0 st.d0) r0, .str (rowS 1 st.d1) r1, .str (rowS 2 st.d2) r2, .str (rowS 3 st.d3) r3, .str (Str.ofString "") r4] nR) ::
      (W, listOf #[.str (Str.ofString "B") w0, .str (Str.ofString "C") w1, .str (Str.ofString "D") w2, .str (Str.ofString "E") w3] nW) :: (A, listOf ys.toArray nA) ::
      (L + 1 + 1 + 1 + 1 + 1 + 1 + 1 + 1 + 1, o9) :: (L + 1 + 1 + 1 + 1 + 1 + 1 + 1 + 1, o8) :: (L + 1 + 1 + 1 + 1 + 1 + 1 + 1, o7) :: (L + 1 + 1 + 1 + 1 + 1 + 1, o6) :: (L + 1 + 1 + 1 + 1 + 1, o5) ::
      (L + 1 + 1 + 1 + 1, o4) :: (L + 1 + 1 + 1, o3) :: (L + 1 + 1, o2) :: (L + 1, o1) :: TT, p ∈ led)
    (hP : Prs TT mv st.met) (hmv : mv.length ≤ 100)
    (ord : @LT.lt Nat instLTNat (L + 9) A ∧ (W ≠ L + 1 + 1 + 1 ∧ W ≠ L + 1 + 1 + 1 + 1 ∧ W ≠ L + 1 + 1 + 1 + 1 + 1 ∧ W ≠ L + 1 + 1 + 1 + 1 + 1 + 1 ∧ W ≠ L + 1 + 1 + 1 + 1 + 1 + 1 + 1 ∧ W ≠ L + 1 + 1 + 1 + 1 + 1 + 1 + 1 + 1 ∧ W ≠ L + 1 + 1 + 1 + 1 + 1 + 1 + 1 + 1 + 1) ∧ @LT.lt Nat instLTNat A M ∧ @LT.lt Nat instLTNat W M ∧ @LT.lt Nat instLTNat (L + 9) R ∧ (Fl ≠ L + 1 + 1 + 1 ∧ Fl ≠ L + 1 + 1 + 1 + 1 ∧ Fl ≠ L + 1 + 1 + 1 + 1 + 1 ∧ Fl ≠ L + 1 + 1 + 1 + 1 + 1 + 1 ∧ Fl ≠ L + 1 + 1 + 1 + 1 + 1 + 1 + 1 ∧ Fl ≠ L + 1 + 1 + 1 + 1 + 1 + 1 + 1 + 1 ∧ Fl ≠ L + 1 + 1 + 1 + 1 + 1 + 1 + 1 + 1 + 1) ∧ @Ne Nat R M ∧ @Ne Nat Fl M ∧ @LT.lt Nat instLTNat (L + 9) M)
    (hTT : ∀ p ∈ TT, @LT.lt Nat instLTNat (L + 9) p.1 ∧ p.1 ≠ M) (n1 : st.rs.Nodup) (n2 : ∀ d ∈ st.rs, 1 ≤ d ∧ d ≤ 4) (n3 : st.rs.length ≤ 4)
    (hX : ∀ q ∈ X, @LT.lt Nat instLTNat (L + 9) q.1 ∧ @Ne Nat q.1 M ∧ @Ne Nat q.1 Fl ∧ @Ne Nat q.1 R ∧ @Ne Nat q.1 W ∧ @Ne Nat q.1 A ∧ ∀ p ∈ TT, p.1 ≠ q.1) :
    Sta H L sc A ys nA st X v4 s₀ { s₀ with heap := h, toks := tk } :=
  ⟨h, tk, m, W, R, Fl, M, w0, w1, w2, w3, r0, r1, r2, r3, r4, u0, u1, u2, u3, tn, mv, nW, nR, nF, nM, TT, o1, o2, o3, o4, o5, o6, o7, o8, o9, v5, v6, v7, v8, v9, rfl, F, fun p hp => N p (sub p hp), eW, eR, eM, eN, d1, d2, d3, d4, d5, d6, d7, d8, d9, hP, hmv, ord, hTT, n1, n2, n3, hX⟩
theorem fr_four {H h : Heap} {L : Addr} {m : Str → Option Value} {a b c d : Str} {va vb vc vd : Value} (F : Fr H L h m) (ea : m a = some va) (eb : m b = some vb) (ec : m c = some vc) (ed : m d = some vd) :
    Fr H L h (fun y => if y = a then some va else if y = b then some vb else if y = c then some vc else if y = d then some vd else m y) := by
  have e : (fun y => if y = a then some va else if y = b then some vb else if y = c then some vc else if y = d then some vd else m y) = m := by
    funext y
    split
    · rename_i q; rw [q, ea]
    split
    · rename_i q; rw [q, eb]
    split
    · rename_i q; rw [q, ec]
    split
    · rename_i q; rw [q, ed]
    rfl
  rw [e]; exact F
noncomputable def and15 (f : Int) (c : Int) : Int := Builtin.bitAnd f c
noncomputable def told4L (a b c d : Nat) : List (Int × Int) := [(141, (a : Int)), (205, (b : Int)), (269, (c : Int)), (333, (d : Int))]
noncomputable def nearL (ps : List (Int × Int)) (age : Int) : Nat := (ps.filter fun q => decide (0 < q.2) && decide (q.2 < age)).length
noncomputable def metOf (S : St) (age : Nat) : Int × Int := ((age : Int), (nearL (told4L (up S.d0) (up S.d1) (up S.d2) (up S.d3)) age : Int))
/-- one request -/
noncomputable def stepN (S : St) : Nat → St
  | 0 => ⟨1, up S.d1, up S.d2, up S.d3, 14, and15 S.f1 14, and15 S.f2 14, and15 S.f3 14, 1 :: S.rs.erase 1, S.met ++ [metOf S (up S.d0)]⟩
  | 1 => ⟨up S.d0, 1, up S.d2, up S.d3, and15 S.f0 13, 13, and15 S.f2 13, and15 S.f3 13, 2 :: S.rs.erase 2, S.met ++ [metOf S (up S.d1)]⟩
  | 2 => ⟨up S.d0, up S.d1, 1, up S.d3, and15 S.f0 11, and15 S.f1 11, 11, and15 S.f3 11, 3 :: S.rs.erase 3, S.met ++ [metOf S (up S.d2)]⟩
  | _ => ⟨up S.d0, up S.d1, up S.d2, 1, and15 S.f0 7, and15 S.f1 7, and15 S.f2 7, 7, 4 :: S.rs.erase 4, S.met ++ [metOf S (up S.d3)]⟩
noncomputable def midN (S : St) : Nat → St
  | 0 => ⟨1, up S.d1, up S.d2, up S.d3, S.f0, S.f1, S.f2, S.f3, S.rs, S.met ++ [metOf S (up S.d0)]⟩
  | 1 => ⟨up S.d0, 1, up S.d2, up S.d3, S.f0, S.f1, S.f2, S.f3, S.rs, S.met ++ [metOf S (up S.d1)]⟩
  | 2 => ⟨up S.d0, up S.d1, 1, up S.d3, S.f0, S.f1, S.f2, S.f3, S.rs, S.met ++ [metOf S (up S.d2)]⟩
  | _ => ⟨up S.d0, up S.d1, up S.d2, 1, S.f0, S.f1, S.f2, S.f3, S.rs, S.met ++ [metOf S (up S.d3)]⟩
noncomputable def step (S : St) (p : Int) : St := stepN S p.toNat
noncomputable def run (as : List Int) : St := as.foldl step St0
theorem run_succ (as : List Int) (i : Nat) (h : i < as.length) : run (as.take (i + 1)) = step (run (as.take i)) as[i] := by
  unfold run
  rw [List.take_succ_eq_append_getElem h, List.foldl_append]
  rfl
noncomputable def Dle (S : St) (n : Nat) : Prop := S.d0 ≤ n ∧ S.d1 ≤ n ∧ S.d2 ≤ n ∧ S.d3 ≤ n
theorem up_le {d n : Nat} (h : d ≤ n) : up d ≤ n + 1 := by unfold up; split <;> omega
theorem step_le {S : St} {n : Nat} (h : Dle S n) (p : Int) : Dle (step S p) (n + 1) := by
  obtain ⟨h0, h1, h2, h3⟩ := h
  have k0 := up_le h0; have k1 := up_le h1; have k2 := up_le h2; have k3 := up_le h3
  unfold step
  match p.toNat with
  | 0 => exact ⟨Nat.succ_le_succ (Nat.zero_le n), k1, k2, k3⟩
  | 1 => exact ⟨k0, Nat.succ_le_succ (Nat.zero_le n), k2, k3⟩
  | 2 => exact ⟨k0, k1, Nat.succ_le_succ (Nat.zero_le n), k3⟩
  | _ + 3 => exact ⟨k0, k1, k2, Nat.succ_le_succ (Nat.zero_le n)⟩
theorem fold_le : ∀ (as : List Int) (S : St) (n : Nat), Dle S n → Dle (as.foldl step S) (n + as.length)
  | [], _, _, h => h
  | a :: as, S, n, h => by
    have := fold_le as (step S a) (n + 1) (step_le h a)
    rw [List.foldl_cons, List.length_cons, show n + (as.length + 1) = n + 1 + as.length by omega]
    exact this
theorem run_le (as : List Int) : Dle (run as) as.length := by
  have := fold_le as St0 0 ⟨Nat.le_refl _, Nat.le_refl _, Nat.le_refl _, Nat.le_refl _⟩
  rw [Nat.zero_add] at this
  exact this
theorem rowS_len (k d : Nat) : (rowS k d).length = d + 1 := by simp [rowS, rowL, Str.length]
theorem rows_fit {a b c d : Nat} (ha : a ≤ 100) (hb : b ≤ 100) (hc : c ≤ 100) (hd : d ≤ 100) : ((rows5 a b c d).map (·.length)).sum + (rows5 a b c d).length ≤ 1048576 := by
  unfold rows5
  simp only [List.map_cons, List.map_nil, List.sum_cons, List.sum_nil, List.length_cons, List.length_nil, rowS_len, show (Str.ofString "").length = 0 from rfl]
  omega
theorem join_fit {S : St} {n : Nat} (sep : Str) (hs : sep.cps.toList.length ≤ 2) (hD : Dle S n) (hn : n ≤ 100) : (Txt.join sep (rows5 S.d0 S.d1 S.d2 S.d3)).cps.size ≤ 2 ^ 19 := by
  obtain ⟨h0, h1, h2, h3⟩ := hD
  rw [← Array.length_toList, join_rows]
  simp only [List.length_append, rowL, List.length_replicate, List.length_cons, List.length_nil]
  omega
theorem own1 {a : Addr} : ∀ {own : List (Addr × Obj)}, own.map Prod.fst = [a] → ∃ oa, own = [(a, oa)]
  | [], h => nomatch h
  | [(x, oa)], h => by
    have h1 : x = a := (List.cons.inj h).1
    subst h1
    exact ⟨oa, rfl⟩
  | _ :: _ :: _, h => nomatch (List.cons.inj h).2
noncomputable def cntJ (ps : List (Int × Int)) (age : Int) (i : Nat) (ys : List Value) : Prop := ys.length = nearL (ps.take i) age
theorem cnt_yes {ps : List (Int × Int)} {age : Int} {i : Nat} {ys : List Value} {y : Value} (hi : i < ps.length) (h : cntJ ps age i ys) (h0 : 0 < (ps.getD i (0, 0)).2) (h1 : (ps.getD i (0, 0)).2 < age) : cntJ ps age (i + 1) (ys ++ [y]) := by
  unfold cntJ nearL at h ⊢
  rw [List.take_succ_eq_append_getElem hi, List.filter_append, List.length_append, List.length_append, h]
  have e : ps.getD i (0, 0) = ps[i] := by simp [hi]
  rw [e] at h0 h1
  simp [h0, h1]
theorem cnt_no {ps : List (Int × Int)} {age : Int} {i : Nat} {ys : List Value} (hi : i < ps.length) (h : cntJ ps age i ys) (h1 : ¬ (0 < (ps.getD i (0, 0)).2 ∧ (ps.getD i (0, 0)).2 < age)) : cntJ ps age (i + 1) ys := by
  unfold cntJ nearL at h ⊢
  have e : ps.getD i (0, 0) = ps[i] := by simp [hi]
  rw [e] at h1
  rw [List.take_succ_eq_append_getElem hi, List.filter_append, List.length_append, h]
  have : (decide (0 < ps[i].2) && decide (ps[i].2 < age)) = false := by
    rw [← Bool.decide_and]; exact decide_eq_false h1
  simp [this]
theorem cnt_all {ps : List (Int × Int)} {age : Int} {ys : List Value} (h : cntJ ps age ps.length ys) : ys.length = nearL ps age := by
  unfold cntJ at h; rwa [List.take_length] at h
theorem near_le (ps : List (Int × Int)) (age : Int) : nearL ps age ≤ ps.length := List.length_filter_le _ _
theorem len_le : ∀ (l s : List Nat), l.Nodup → (∀ d ∈ l, d ∈ s) → l.length ≤ s.length
  | [], _, _, _ => Nat.zero_le _
  | d :: l, s, hn, h => by
    have hd := h d List.mem_cons_self
    have hn' := List.nodup_cons.mp hn
    have := len_le l (s.erase d) hn'.2 fun e he => (List.mem_erase_of_ne (fun q : e = d => hn'.1 (q ▸ he))).mpr (h e (List.mem_cons_of_mem _ he))
    rw [List.length_erase_of_mem hd] at this
    have hp : 0 < s.length := List.length_pos_of_mem hd
    rw [List.length_cons]; omega
theorem rs_next {rs : List Nat} (f : Nat) (n1 : rs.Nodup) (n2 : ∀ d ∈ rs, 1 ≤ d ∧ d ≤ 4) (hf : 1 ≤ f ∧ f ≤ 4) : (f :: rs.erase f).Nodup ∧ (∀ d ∈ f :: rs.erase f, 1 ≤ d ∧ d ≤ 4) ∧ (f :: rs.erase f).length ≤ 4 := by
  have a1 : (f :: rs.erase f).Nodup := List.nodup_cons.mpr ⟨fun h => (List.Nodup.mem_erase_iff n1).mp h |>.1 rfl, n1.erase f⟩
  have a2 : ∀ d ∈ f :: rs.erase f, 1 ≤ d ∧ d ≤ 4 := fun d hd => by
    rcases List.mem_cons.mp hd with rfl | hd
    · exact hf
    · exact n2 d (List.mem_of_mem_erase hd)
  refine ⟨a1, a2, ?_⟩
  refine len_le _ [1, 2, 3, 4] a1 fun d hd => ?_
  have := a2 d hd
  simp only [List.mem_cons, List.not_mem_nil, or_false]
  omega
theorem step_met (S : St) (p : Int) : (step S p).met.length = S.met.length + 1 := by
  unfold step
  match p.toNat with
  | 0 => simp [stepN]
  | 1 => simp [stepN]
  | 2 => simp [stepN]
  | _ + 3 => simp [stepN]
theorem fold_met : ∀ (as : List Int) (S : St), (as.foldl step S).met.length = S.met.length + as.length
  | [], _ => rfl
  | a :: as, S => by
    rw [List.foldl_cons, fold_met as (step S a), step_met, List.length_cons]; omega
theorem run_met (as : List Int) : (run as).met.length = as.length := by
  unfold run; rw [fold_met]; simp [St0]
theorem Sta.elim0 {d0 d1 d2 d3 : Nat} {f0 f1 f2 f3 : Int} {rs : List Nat} {met : List (Int × Int)} {H : Heap} {L sc A : Addr} {ys : List Value} {nA : Nat} {v4 : Option Value} {s₀ s' : Shared} {P : Shared → Prop} (hS : Sta H L sc A ys nA ⟨d0, d1, d2, d3, f0, f1, f2, f3, rs, met⟩ [] v4 s₀ s')
    (k : ∀ (h : Heap) (tk : Nat) (m : Str → Option Value) (W R Fl M : Addr) (w0 w1 w2 w3 r0 r1 r2 r3 r4 u0 u1 u2 u3 tn : Tok) (mv : List Value) (nW nR nF nM : Nat) (TT : List (Addr × Obj)) (o1 o2 o3 o4 o5 o6 o7 o8 o9 : Obj) (v5 v6 v7 v8 v9 : Option Value),
      Fr H L h m → News H L h ((M, listOf mv.toArray nM) :: (Fl, listOf #[.int f0 u0, .int f1 u1, .int f2 u2, .int f3 u3] nF) ::
      (R, listOf #[.str (rowS 0 d0) r0, .str (rowS 1 d1) r1, .str (rowS 2 d2) r2, .str (rowS 3 d3) r3, .str (Str.ofString "") r4] nR) ::
      (W, listOf #[.str (Str.ofString "B") w0, .str (Str.ofString "C") w1, .str (Str.ofString "D") w2, .str (Str.ofString "E") w3] nW) :: (A, listOf ys.toArray nA) ::
      (L + 1 + 1 + 1 + 1 + 1 + 1 + 1 + 1 + 1, o9) :: (L + 1 + 1 + 1 + 1 + 1 + 1 + 1 + 1, o8) :: (L + 1 + 1 + 1 + 1 + 1 + 1 + 1, o7) :: (L + 1 + 1 + 1 + 1 + 1 + 1, o6) :: (L + 1 + 1 + 1 + 1 + 1, o5) ::
      (L + 1 + 1 + 1 + 1, o4) :: (L + 1 + 1 + 1, o3) :: (L + 1 + 1, o2) :: (L + 1, o1) :: TT) → m (Str.ofString "words") = some (.ref W) → m (Str.ofString "rows") = some (.ref R) → m (Str.ofString "met") = some (.ref M) → m (Str.ofString "number") = some (.int (apV rs) tn) → o1.data = .cell (some (.ref sc)) → o2.data = .cell (some (.ref A)) → o3.data = .cell (some (.ref Fl)) → o4.data = .cell v4 → o5.data = .cell v5 → o6.data = .cell v6 → o7.data = .cell v7 → o8.data = .cell v8 → o9.data = .cell v9 → Prs TT mv met → mv.length ≤ 100 → (@LT.lt Nat instLTNat (L + 9) A ∧ (W ≠ L + 1 + 1 + 1 ∧ W ≠ L + 1 + 1 + 1 + 1 ∧ W ≠ L + 1 + 1 + 1 + 1 + 1 ∧ W ≠ L + 1 + 1 + 1 + 1 + 1 + 1 ∧ W ≠ L + 1 + 1 + 1 + 1 + 1 + 1 + 1 ∧ W ≠ L + 1 + 1 + 1 + 1 + 1 + 1 + 1 + 1 ∧ W ≠ L + 1 + 1 + 1 + 1 + 1 + 1 + 1 + 1 + 1) ∧ @LT.lt Nat instLTNat A M ∧ @LT.lt Nat instLTNat W M ∧ @LT.lt Nat instLTNat (L + 9) R ∧ (Fl ≠ L + 1 + 1 + 1 ∧ Fl ≠ L + 1 + 1 + 1 + 1 ∧ Fl ≠ L + 1 + 1 + 1 + 1 + 1 ∧ Fl ≠ L + 1 + 1 + 1 + 1 + 1 + 1 ∧ Fl ≠ L + 1 + 1 + 1 + 1 + 1 + 1 + 1 ∧ Fl ≠ L + 1 + 1 + 1 + 1 + 1 + 1 + 1 + 1 ∧ Fl ≠ L + 1 + 1 + 1 + 1 + 1 + 1 + 1 + 1 + 1) ∧ @Ne Nat R M ∧ @Ne Nat Fl M ∧ @LT.lt Nat instLTNat (L + 9) M) → (∀ p ∈ TT, @LT.lt Nat instLTNat (L + 9) p.1 ∧ p.1 ≠ M) → rs.Nodup → (∀ d ∈ rs, 1 ≤ d ∧ d ≤ 4) → rs.length ≤ 4 → @LT.lt Nat instLTNat (L + 9) A → W ≠ L + 1 + 1 + 1 → W ≠ L + 1 + 1 + 1 + 1 → W ≠ L + 1 + 1 + 1 + 1 + 1 → W ≠ L + 1 + 1 + 1 + 1 + 1 + 1 → W ≠ L + 1 + 1 + 1 + 1 + 1 + 1 + 1 → W ≠ L + 1 + 1 + 1 + 1 + 1 + 1 + 1 + 1 → W ≠ L + 1 + 1 + 1 + 1 + 1 + 1 + 1 + 1 + 1 → @LT.lt Nat instLTNat A M → @LT.lt Nat instLTNat W M → @LT.lt Nat instLTNat (L + 9) R → Fl ≠ L + 1 + 1 + 1 → Fl ≠ L + 1 + 1 + 1 + 1 → Fl ≠ L + 1 + 1 + 1 + 1 + 1 → Fl ≠ L + 1 + 1 + 1 + 1 + 1 + 1 → Fl ≠ L + 1 + 1 + 1 + 1 + 1 + 1 + 1 → Fl ≠ L + 1 + 1 + 1 + 1 + 1 + 1 + 1 + 1 → Fl ≠ L + 1 + 1 + 1 + 1 + 1 + 1 + 1 + 1 + 1 → @Ne Nat R M → @Ne Nat Fl M → @LT.lt Nat instLTNat (L + 9) M → P { s₀ with heap := h, toks := tk }) : P s' := by
  cases hS with
  | mk h tk m W R Fl M w0 w1 w2 w3 r0 r1 r2 r3 r4 u0 u1 u2 u3 tn mv nW nR nF nM TT o1 o2 o3 o4 o5 o6 o7 o8 o9 v5 v6 v7 v8 v9 e g0 g1 g2 g3 g4 g5 g6 g7 g8 g9 g10 g11 g12 g13 g14 g15 g16 g17 g18 g19 g20 g21 g22 =>
    subst e
    exact k h tk m W R Fl M w0 w1 w2 w3 r0 r1 r2 r3 r4 u0 u1 u2 u3 tn mv nW nR nF nM TT o1 o2 o3 o4 o5 o6 o7 o8 o9 v5 v6 v7 v8 v9 g0 g1 g2 g3 g4 g5 g6 g7 g8 g9 g10 g11 g12 g13 g14 g15 g16 g17 g18 g19 g20 g21 g17.1 g17.2.1.1 g17.2.1.2.1 g17.2.1.2.2.1 g17.2.1.2.2.2.1 g17.2.1.2.2.2.2.1 g17.2.1.2.2.2.2.2.1 g17.2.1.2.2.2.2.2.2 g17.2.2.1 g17.2.2.2.1 g17.2.2.2.2.1 g17.2.2.2.2.2.1.1 g17.2.2.2.2.2.1.2.1 g17.2.2.2.2.2.1.2.2.1 g17.2.2.2.2.2.1.2.2.2.1 g17.2.2.2.2.2.1.2.2.2.2.1 g17.2.2.2.2.2.1.2.2.2.2.2.1 g17.2.2.2.2.2.1.2.2.2.2.2.2 g17.2.2.2.2.2.2.1 g17.2.2.2.2.2.2.2.1 g17.2.2.2.2.2.2.2.2
theorem Sta.elim1 {d0 d1 d2 d3 : Nat} {f0 f1 f2 f3 : Int} {rs : List Nat} {met : List (Int × Int)} {H : Heap} {L sc A : Addr} {ys : List Value} {nA : Nat} {v4 : Option Value} {I : Addr} {oI : Obj} {s₀ s' : Shared} {P : Shared → Prop} (hS : Sta H L sc A ys nA ⟨d0, d1, d2, d3, f0, f1, f2, f3, rs, met⟩ [(I, oI)] v4 s₀ s')
    (k : ∀ (h : Heap) (tk : Nat) (m : Str → Option Value) (W R Fl M : Addr) (w0 w1 w2 w3 r0 r1 r2 r3 r4 u0 u1 u2 u3 tn : Tok) (mv : List Value) (nW nR nF nM : Nat) (TT : List (Addr × Obj)) (o1 o2 o3 o4 o5 o6 o7 o8 o9 : Obj) (v5 v6 v7 v8 v9 : Option Value),
      Fr H L h m → News H L h ((I, oI) :: (M, listOf mv.toArray nM) :: (Fl, listOf #[.int f0 u0, .int f1 u1, .int f2 u2, .int f3 u3] nF) ::
      (R, listOf #[.str (rowS 0 d0) r0, .str (rowS 1 d1) r1, .str (rowS 2 d2) r2, .str (rowS 3 d3) r3, .str (Str.ofString "") r4] nR) ::
      (W, listOf #[.str (Str.ofString "B") w0, .str (Str.ofString "C") w1, .str (Str.ofString "D") w2, .str (Str.ofString "E") w3] nW) :: (A, listOf ys.toArray nA) ::
      (L + 1 + 1 + 1 + 1 + 1 + 1 + 1 + 1 + 1, o9) :: (L + 1 + 1 + 1 + 1 + 1 + 1 + 1 + 1, o8) :: (L + 1 + 1 + 1 + 1 + 1 + 1 + 1, o7) :: (L + 1 + 1 + 1 + 1 + 1 + 1, o6) :: (L + 1 + 1 + 1 + 1 + 1, o5) ::
      (L + 1 + 1 + 1 + 1, o4) :: (L + 1 + 1 + 1, o3) :: (L + 1 + 1, o2) :: (L + 1, o1) :: TT) → m (Str.ofString "words") = some (.ref W) → m (Str.ofString "rows") = some (.ref R) → m (Str.ofString "met") = some (.ref M) → m (Str.ofString "number") = some (.int (apV rs) tn) → o1.data = .cell (some (.ref sc)) → o2.data = .cell (some (.ref A)) → o3.data = .cell (some (.ref Fl)) → o4.data = .cell v4 → o5.data = .cell v5 → o6.data = .cell v6 → o7.data = .cell v7 → o8.data = .cell v8 → o9.data = .cell v9 → Prs TT mv met → mv.length ≤ 100 → (@LT.lt Nat instLTNat (L + 9) A ∧ (W ≠ L + 1 + 1 + 1 ∧ W ≠ L + 1 + 1 + 1 + 1 ∧ W ≠ L + 1 + 1 + 1 + 1 + 1 ∧ W ≠ L + 1 + 1 + 1 + 1 + 1 + 1 ∧ W ≠ L + 1 + 1 + 1 + 1 + 1 + 1 + 1 ∧ W ≠ L + 1 + 1 + 1 + 1 + 1 + 1 + 1 + 1 ∧ W ≠ L + 1 + 1 + 1 + 1 + 1 + 1 + 1 + 1 + 1) ∧ @LT.lt Nat instLTNat A M ∧ @LT.lt Nat instLTNat W M ∧ @LT.lt Nat instLTNat (L + 9) R ∧ (Fl ≠ L + 1 + 1 + 1 ∧ Fl ≠ L + 1 + 1 + 1 + 1 ∧ Fl ≠ L + 1 + 1 + 1 + 1 + 1 ∧ Fl ≠ L + 1 + 1 + 1 + 1 + 1 + 1 ∧ Fl ≠ L + 1 + 1 + 1 + 1 + 1 + 1 + 1 ∧ Fl ≠ L + 1 + 1 + 1 + 1 + 1 + 1 + 1 + 1 ∧ Fl ≠ L + 1 + 1 + 1 + 1 + 1 + 1 + 1 + 1 + 1) ∧ @Ne Nat R M ∧ @Ne Nat Fl M ∧ @LT.lt Nat instLTNat (L + 9) M) → (∀ p ∈ TT, @LT.lt Nat instLTNat (L + 9) p.1 ∧ p.1 ≠ M) → rs.Nodup → (∀ d ∈ rs, 1 ≤ d ∧ d ≤ 4) → rs.length ≤ 4 → (@LT.lt Nat instLTNat (L + 9) I) → (@Ne Nat I M) → (@Ne Nat I Fl) → (@Ne Nat I R) → (@Ne Nat I W) → (@Ne Nat I A) → (∀ p ∈ TT, p.1 ≠ I) → @LT.lt Nat instLTNat (L + 9) A → W ≠ L + 1 + 1 + 1 → W ≠ L + 1 + 1 + 1 + 1 → W ≠ L + 1 + 1 + 1 + 1 + 1 → W ≠ L + 1 + 1 + 1 + 1 + 1 + 1 → W ≠ L + 1 + 1 + 1 + 1 + 1 + 1 + 1 → W ≠ L + 1 + 1 + 1 + 1 + 1 + 1 + 1 + 1 → W ≠ L + 1 + 1 + 1 + 1 + 1 + 1 + 1 + 1 + 1 → @LT.lt Nat instLTNat A M → @LT.lt Nat instLTNat W M → @LT.lt Nat instLTNat (L + 9) R → Fl ≠ L + 1 + 1 + 1 → Fl ≠ L + 1 + 1 + 1 + 1 → Fl ≠ L + 1 + 1 + 1 + 1 + 1 → Fl ≠ L + 1 + 1 + 1 + 1 + 1 + 1 → Fl ≠ L + 1 + 1 + 1 + 1 + 1 + 1 + 1 → Fl ≠ L + 1 + 1 + 1 + 1 + 1 + 1 + 1 + 1 → Fl ≠ L + 1 + 1 + 1 + 1 + 1 + 1 + 1 + 1 + 1 → @Ne Nat R M → @Ne Nat Fl M → @LT.lt Nat instLTNat (L + 9) M → P { s₀ with heap := h, toks := tk }) : P s' := by
  cases hS with
  | mk h tk m W R Fl M w0 w1 w2 w3 r0 r1 r2 r3 r4 u0 u1 u2 u3 tn mv nW nR nF nM TT o1 o2 o3 o4 o5 o6 o7 o8 o9 v5 v6 v7 v8 v9 e g0 g1 g2 g3 g4 g5 g6 g7 g8 g9 g10 g11 g12 g13 g14 g15 g16 g17 g18 g19 g20 g21 g22 =>
    subst e
    have gX := g22 (I, oI) (List.mem_singleton.mpr rfl)
    exact k h tk m W R Fl M w0 w1 w2 w3 r0 r1 r2 r3 r4 u0 u1 u2 u3 tn mv nW nR nF nM TT o1 o2 o3 o4 o5 o6 o7 o8 o9 v5 v6 v7 v8 v9 g0 g1 g2 g3 g4 g5 g6 g7 g8 g9 g10 g11 g12 g13 g14 g15 g16 g17 g18 g19 g20 g21 gX.1 gX.2.1 gX.2.2.1 gX.2.2.2.1 gX.2.2.2.2.1 gX.2.2.2.2.2.1 gX.2.2.2.2.2.2 g17.1 g17.2.1.1 g17.2.1.2.1 g17.2.1.2.2.1 g17.2.1.2.2.2.1 g17.2.1.2.2.2.2.1 g17.2.1.2.2.2.2.2.1 g17.2.1.2.2.2.2.2.2 g17.2.2.1 g17.2.2.2.1 g17.2.2.2.2.1 g17.2.2.2.2.2.1.1 g17.2.2.2.2.2.1.2.1 g17.2.2.2.2.2.1.2.2.1 g17.2.2.2.2.2.1.2.2.2.1 g17.2.2.2.2.2.1.2.2.2.2.1 g17.2.2.2.2.2.1.2.2.2.2.2.1 g17.2.2.2.2.2.1.2.2.2.2.2.2 g17.2.2.2.2.2.2.1 g17.2.2.2.2.2.2.2.1 g17.2.2.2.2.2.2.2.2
end Mine
end
section
open PySem PySem.W PySem.Calls PyProof.Rows PyProof.V PySem.Spec PySem.SeqAt
set_option maxRecDepth 100000
set_option maxHeartbeats 400000
namespace Mine
theorem readsAll_bools {h : Heap} : ∀ bs : List Bool, ReadsAll h (bs.map .bool) (bs.map PyData.bool) []
  | [] => .nil
  | b :: r => by
    have := ReadsAll.cons (Reads.bool (h := h) b) (readsAll_bools (h := h) r)
    simpa using this
theorem reads_bools {h : Heap} {a : Addr} {bs : List Bool} (hl : h.IsList a (List.toArray (bs.map .bool))) : Reads h (.ref a) (.list (bs.map PyData.bool)) [a] := by
  obtain ⟨o, ho, hc, n, hd⟩ := hl
  exact Reads.list ho hc hd (by simpa using readsAll_bools bs)
theorem canLay_bools : ∀ bs : List Bool, PyData.canLayAll0 (bs.map PyData.bool) = true
  | [] => by simp [PyData.canLayAll0]
  | n :: r => by simp [PyData.canLayAll0, PyData.canLay0, canLay_bools r]
theorem depth_bools : ∀ bs : List Bool, PyData.depthAll (bs.map PyData.bool) ≤ 1
  | [] => by simp [PyData.depthAll]
  | n :: r => by
    have := depth_bools r
    simp only [List.map_cons, PyData.depthAll, PyData.depth]
    omega
theorem shaped_bools (bs : List Bool) : shaped (.list (bs.map PyData.bool)) = true := by
  have h1 := depth_bools bs
  have h2 : PyData.depth (.list (bs.map PyData.bool)) ≤ 64 := by simp only [PyData.depth]; omega
  show (PyData.canLay0 (.list (bs.map PyData.bool)) && decide (PyData.depth (.list (bs.map PyData.bool)) ≤ 64)) = true
  rw [Bool.and_eq_true]
  exact ⟨by simp only [PyData.canLay0]; exact canLay_bools bs, decide_eq_true h2⟩
theorem noMix_bools : ∀ ns ms : List Bool, noMixAll (ns.map PyData.bool) (ms.map PyData.bool) = true
  | [], [] => by simp [noMixAll]
  | [], _ :: _ => by simp [noMixAll]
  | _ :: _, [] => by simp [noMixAll]
  | _ :: r, _ :: q => by simp [noMixAll, noMix, noMix_bools r q]
theorem same_bools : ∀ ns ms : List Bool, PySem.Spec.sameAll (ns.map PyData.bool) (ms.map PyData.bool) = decide (ns = ms)
  | [], [] => by simp [PySem.Spec.sameAll]
  | [], _ :: _ => by simp [PySem.Spec.sameAll]
  | _ :: _, [] => by simp [PySem.Spec.sameAll]
  | n :: r, k :: q => by
    simp only [List.map_cons, PySem.Spec.sameAll, PySem.Spec.same, same_bools r q]
    by_cases h : n = k <;> simp [h]
section
variable {prog : Program} {w : World} {A : Around} {E : Value → Shared → Prop} {s : Shared} {h₀ : Heap} {L : Addr} {m : Str → Option Value} {news : List (Addr × Obj)} {Q : Value → Shared → Prop}
/-- two lists of bools, known to be the same, are not != -/
theorem ne_bools {a b : Addr} {vs us : List Value} {n k : Nat} {bs : List Bool} (N : News h₀ L s.heap news) (ha : (a, listOf vs.toArray n) ∈ news) (hb : (b, listOf us.toArray k) ∈ news) (e1 : vs = bs.map .bool) (e2 : us = bs.map .bool) (hu : A.units + 64 < cLine)
    (h : Q (.bool false) s) : wpAny (model prog w) A (compareOp .NotEq (.ref a) (.ref b)) Q E s := by
  subst e1 e2
  refine ne_dataH_same (reads_bools ⟨_, (N _ ha).1, rfl, n, rfl⟩) (reads_bools ⟨_, (N _ hb).1, rfl, k, rfl⟩) (shaped_bools bs) (shaped_bools bs) hu (by simp only [noMix]; exact noMix_bools bs bs) ?_
  simp only [PySem.Spec.same]
  rw [same_bools, decide_eq_true rfl]
  exact h
/-- two lists of ints, known to be the same, are not != -/
theorem ne_ints {a b : Addr} {vs us : List Value} {n k : Nat} {ns : List Int} (N : News h₀ L s.heap news) (ha : (a, listOf vs.toArray n) ∈ news) (hb : (b, listOf us.toArray k) ∈ news) (e1 : IntsAre vs ns) (e2 : IntsAre us ns) (hu : A.units + 64 < cLine)
    (h : Q (.bool false) s) : wpAny (model prog w) A (compareOp .NotEq (.ref a) (.ref b)) Q E s := by
  refine ne_intsK ⟨_, (N _ ha).1, rfl, n, rfl⟩ e1 ⟨_, (N _ hb).1, rfl, k, rfl⟩ e2 hu ?_
  rw [decide_eq_true rfl]
  exact h
end
/-- the sort's tree, run by an order of places -/
noncomputable def KasRun {α : Type} (lt : Nat → Nat → Bool) : KasT α → α
  | .ret a => a
  | .ask i j k => KasRun lt (k (lt i j))
noncomputable def KasIn {α : Type} (n : Nat) : KasT α → Bool
  | .ret _ => true
  | .ask i j k => decide (i < n) && decide (j < n) && KasIn n (k true) && KasIn n (k false)
theorem kas_run {α : Type} {n : Nat} {lt : Nat → Nat → Bool} {cmp : Nat → Nat → (Bool → Shared → Prop) → Shared → Prop} {Q : α → Shared → Prop} {s : Shared} (hc : ∀ i j C, i < n → j < n → C (lt i j) s → cmp i j C s) :
    ∀ t : KasT α, KasIn n t = true → Q (KasRun lt t) s → t.kasWp cmp Q s
  | .ret _, _, h => h
  | .ask i j k, hin, h => by
    unfold KasIn at hin
    simp only [Bool.and_eq_true, decide_eq_true_eq] at hin
    obtain ⟨⟨⟨hi, hj⟩, h1⟩, h2⟩ := hin
    refine hc i j _ hi hj ?_
    refine kas_run hc (k (lt i j)) ?_ h
    cases lt i j with
    | true => exact h1
    | false => exact h2
theorem kas_in4 : KasIn 4 (kas_sort 4) = true := by decide +kernel
noncomputable def pairLt (ps : List (Int × Int)) (i j : Nat) : Bool :=
  if (ps.getD i (0, 0)).1 == (ps.getD j (0, 0)).1 then decide ((ps.getD i (0, 0)).2 < (ps.getD j (0, 0)).2) else decide ((ps.getD i (0, 0)).1 < (ps.getD j (0, 0)).1)
theorem tups_of {h : Heap} {h₀ : Heap} {L : Addr} {news : List (Addr × Obj)} (N : News h₀ L h news) : ∀ {vs : List Value} {ps : List (Int × Int)}, Prs news vs ps → ∃ fs, KatTups h vs fs ∧ fs.length = vs.length ∧ ∀ v ∈ fs, ∃ k t, v = .int k t
  | [], [], _ => ⟨[], .nil, rfl, fun _ hv => nomatch hv⟩
  | _ :: _, _ :: _, ⟨⟨a, ta, tb, e, hm⟩, r⟩ => by
    obtain ⟨fs, h1, h2, h3⟩ := tups_of N r
    subst e
    refine ⟨.int _ ta :: fs, .cons (N _ hm).1 rfl rfl rfl h1, by simp [h2], fun v hv => ?_⟩
    rcases List.mem_cons.mp hv with rfl | hv
    · exact ⟨_, _, rfl⟩
    · exact h3 v hv
  | [], _ :: _, h => h.elim
  | _ :: _, [], h => h.elim
section
variable {prog : Program} {w : World} {A : Around} {E : Value → Shared → Prop} {s : Shared} {h₀ : Heap} {L : Addr} {m : Str → Option Value} {news : List (Addr × Obj)} {Q : Value → Shared → Prop}
theorem sorted_pairs {l : Addr} {vs : List Value} {n : Nat} {ps : List (Int × Int)} (F : Fr h₀ L s.heap m) (N : News h₀ L s.heap news) (hm : (l, listOf vs.toArray n) ∈ news) (hP : Prs news vs ps) (h4 : ps.length = 4)
    (h : ∀ D k h', Fr h₀ L h' m → News h₀ L h' ((D, listOf (List.toArray ((KasRun (pairLt ps) (kas_sort 4)).toList.map fun i => vs.getD i Value.none)) k) :: news) → (∀ p ∈ news, p.1 < D) → Q (.ref D) { s with heap := h' }) :
    wpAny (model prog w) A (call (.builtin "sorted") [.ref l]) Q E s := by
  have hl : vs.length = 4 := by rw [hP.length, h4]
  refine kat_sorted F N ⟨_, (N _ hm).1, rfl, n, rfl⟩ (by omega) (by omega) fun D e1 h' F' N' l1 => ?_
  have N2 : News h₀ L h' news := fun p hp => N' p (List.mem_cons_of_mem _ hp)
  obtain ⟨fs, t1, t2, t3⟩ := tups_of N2 hP
  refine kat_kind (T := .type "int") t1 (by omega) (fun v hv => ?_) rfl ?_
  · obtain ⟨k, t, rfl⟩ := t3 v hv
    exact .now
  rw [hl]
  refine kas_run (n := 4) (lt := pairLt ps) (fun i j C hi hj hC => ?_) _ kas_in4 ?_
  · unfold kas_ask
    obtain ⟨a, ta, tb, e1, m1⟩ := hP.at i (by omega)
    obtain ⟨b, ua, ub, e2, m2⟩ := hP.at j (by omega)
    rw [show vs.getD i Value.none = .ref a by simp [e1], show vs.getD j Value.none = .ref b by simp [e2]]
    refine kat_lt (N2 _ m1).1 rfl (N2 _ m2).1 rfl ?_
    show KatLex _ _ _ _ _ _ [(_, _), (_, _)] 0 _
    refine kat_cons (wpAny_eqBool_int ?_)
    unfold pairLt at hC
    cases hb : ((ps.getD i (0, 0)).1 == (ps.getD j (0, 0)).1) with
    | false =>
      rw [hb] at hC
      refine kat_no (oneLt_int ?_)
      simpa using hC
    | true =>
      rw [hb] at hC
      refine kat_yes (kat_cons (wpAny_eqBool_int ?_))
      simp only [if_true] at hC
      cases hb2 : ((ps.getD i (0, 0)).2 == (ps.getD j (0, 0)).2) with
      | false => exact kat_no (kat_one _ _ (lt_int hC))
      | true =>
        refine kat_yes (kat_nil ?_)
        have := eq_of_beq hb2
        rw [this] at hC
        simpa using hC
  · refine KasFin.intro F' N' (.head fun p hp => Nat.ne_of_lt (l1 p hp)) fun h'' c F'' N'' => ?_
    exact h D c h'' F'' N'' l1
end
end Mine
end
section
open PySem PySem.W PySem.Calls PyProof.Rows PySem.Spec
set_option maxRecDepth 100000
set_option maxHeartbeats 400000
namespace Mine
/-- the law's frame and ledger behind the loop over the requests -/
inductive Stb (H : Heap) (L A : Addr) (ys : List Value) (nA : Nat) (st : St) (kv : List Value) (X : List (Addr × Obj)) (s₀ s' : Shared) : Prop
  | mk (h : Heap) (tk : Nat) (m : Str → Option Value) (M Fl D b0 b1 b2 b3 K : Addr) (u0 u1 u2 u3 tn e0 e1 e2 e3 e4 e5 e6 e7 : Tok) (mv : List Value) (nF nM nD nK : Nat) (TT : List (Addr × Obj)) (o1 o2 o3 o4 o5 o6 o7 o8 o9 : Obj) (v1 v4 v6 v8 v9 : Option Value)
    (g0 : s' = { s₀ with heap := h, toks := tk })
    (g1 : Fr H L h m)
    (g2 : News H L h (X ++ (D, listOf #[.ref b0, .ref b1, .ref b2, .ref b3] nD) :: (b0, tupO 141 (up st.d0) e0 e1) :: (b1, tupO 205 (up st.d1) e2 e3) :: (b2, tupO 269 (up st.d2) e4 e5) :: (b3, tupO 333 (up st.d3) e6 e7) ::
      (K, listOf kv.toArray nK) :: (M, listOf mv.toArray nM) :: (Fl, listOf #[.int st.f0 u0, .int st.f1 u1, .int st.f2 u2, .int st.f3 u3] nF) :: (A, listOf ys.toArray nA) ::
      (L + 1 + 1 + 1 + 1 + 1 + 1 + 1 + 1 + 1, o9) :: (L + 1 + 1 + 1 + 1 + 1 + 1 + 1 + 1, o8) :: (L + 1 + 1 + 1 + 1 + 1 + 1 + 1, o7) :: (L + 1 + 1 + 1 + 1 + 1 + 1, o6) :: (L + 1 + 1 + 1 + 1 + 1, o5) ::
      (L + 1 + 1 + 1 + 1, o4) :: (L + 1 + 1 + 1, o3) :: (L + 1 + 1, o2) :: (L + 1, o1) :: TT))
    (g3 : m (Str.ofString "met") = some (.ref M))
    (g4 : m (Str.ofString "number") = some (.int (apV st.rs) tn))
    (g5 : o1.data = .cell v1)
    (g6 : o2.data = .cell (some (.ref A)))
    (g7 : o3.data = .cell (some (.ref Fl)))
    (g8 : o4.data = .cell v4)
    (g9 : o5.data = .cell (some (.ref D)))
    (g10 : o6.data = .cell v6)
    (g11 : o7.data = .cell (some (.ref K)))
    (g12 : o8.data = .cell v8)
    (g13 : o9.data = .cell v9)
    (g14 : Prs TT mv st.met)
    (g15 : mv.length ≤ 100)
    (g16 : (@LT.lt Nat instLTNat (L + 9) A ∧ @LT.lt Nat instLTNat (L + 9) M ∧ (Fl ≠ L + 1 + 1 + 1 + 1 ∧ Fl ≠ L + 1 + 1 + 1 + 1 + 1 + 1 + 1 + 1 ∧ Fl ≠ L + 1 + 1 + 1 + 1 + 1 + 1 + 1 + 1 + 1) ∧
      @LT.lt Nat instLTNat (L + 9) D ∧ @LT.lt Nat instLTNat (L + 9) b0 ∧ @LT.lt Nat instLTNat (L + 9) b1 ∧ @LT.lt Nat instLTNat (L + 9) b2 ∧ @LT.lt Nat instLTNat (L + 9) b3 ∧ @LT.lt Nat instLTNat (L + 9) K))
    (g17 : (∀ p ∈ TT, @LT.lt Nat instLTNat (L + 9) p.1))
    (g18 : (∀ q ∈ X, @LT.lt Nat instLTNat (L + 9) q.1 ∧ @Ne Nat q.1 D ∧ @Ne Nat q.1 b0 ∧ @Ne Nat q.1 b1 ∧ @Ne Nat q.1 b2 ∧ @Ne Nat q.1 b3 ∧ @Ne Nat q.1 K ∧ @Ne Nat q.1 M ∧ @Ne Nat q.1 Fl ∧ @Ne Nat q.1 A ∧ ∀ p ∈ TT, p.1 ≠ q.1))
theorem Stb.intro {H : Heap} {L A : Addr} {ys : List Value} {nA : Nat} {st : St} {kv : List Value} {X : List (Addr × Obj)} {s₀ : Shared} {h : Heap} {tk : Nat} {m : Str → Option Value} {M Fl D b0 b1 b2 b3 K : Addr} {u0 u1 u2 u3 tn e0 e1 e2 e3 e4 e5 e6 e7 : Tok} {mv : List Value} {nF nM nD nK : Nat} {TT led : List (Addr × Obj)} {o1 o2 o3 o4 o5 o6 o7 o8 o9 : Obj} {v1 v4 v6 v8 v9 : Option Value}
    (F : Fr H L h m) (eM : m (Str.ofString "met") = some (.ref M)) (eN : m (Str.ofString "number") = some (.int (apV st.rs) tn))
    (d1 : o1.data = .cell v1) (d2 : o2.data = .cell (some (.ref A))) (d3 : o3.data = .cell (some (.ref Fl))) (d4 : o4.data = .cell v4) (d5 : o5.data = .cell (some (.ref D))) (d6 : o6.data = .cell v6) (d7 : o7.data = .cell (some (.ref K))) (d8 : o8.data = .cell v8) (d9 : o9.data = .cell v9)
    (N : News H L h led) (sub : ∀ p ∈ X ++ (D, listOf #[.ref b0, .ref b1, .ref b2, .ref b3] nD) :: (b0, tupO 141 (up st.d0) e0 e1) :: (b1, tupO 205 (up st.d1) e2 e3) :: (b2, tupO 269 (up st.d2) e4 e5) :: (b3, tupO 333 (up st.d3) e6 e7) ::
      (K, listOf kv.toArray nK) :: (M, listOf mv.toArray nM) :: (Fl, listOf #[.int st.f0 u0, .int st.f1 u1, .int st.f2 u2, .int st.f3 u3] nF) :: (A, listOf ys.toArray nA) ::
      (L + 1 + 1 + 1 + 1 + 1 + 1 + 1 + 1 + 1, o9) :: (L + 1 + 1 + 1 + 1 + 1 + 1 + 1 + 1, o8) :: (L + 1 + 1 + 1 + 1 + 1 + 1 + 1, o7) :: (L + 1 + 1 + 1 + 1 + 1 + 1, o6) :: (L + 1 + 1 + 1 + 1 + 1, o5) ::
      (L + 1 + 1 + 1 + 1, o4) :: (L + 1 + 1 + 1, o3) :: (L + 1 + 1, o2) :: (L + 1, o1) :: TT, p ∈ led)
    (hP : Prs TT mv st.met) (hmv : mv.length ≤ 100) (ord : @LT.lt Nat instLTNat (L + 9) A ∧ @LT.lt Nat instLTNat (L + 9) M ∧ (Fl ≠ L + 1 + 1 + 1 + 1 ∧ Fl ≠ L + 1 + 1 + 1 + 1 + 1 + 1 + 1 + 1 ∧ Fl ≠ L + 1 + 1 + 1 + 1 + 1 + 1 + 1 + 1 + 1) ∧
      @LT.lt Nat instLTNat (L + 9) D ∧ @LT.lt Nat instLTNat (L + 9) b0 ∧ @LT.lt Nat instLTNat (L + 9) b1 ∧ @LT.lt Nat instLTNat (L + 9) b2 ∧ @LT.lt Nat instLTNat (L + 9) b3 ∧ @LT.lt Nat instLTNat (L + 9) K)
    (hTT : ∀ p ∈ TT, @LT.lt Nat instLTNat (L + 9) p.1)
    (hX : ∀ q ∈ X, @LT.lt Nat instLTNat (L + 9) q.1 ∧ @Ne Nat q.1 D ∧ @Ne Nat q.1 b0 ∧ @Ne Nat q.1 b1 ∧ @Ne Nat q.1 b2 ∧ @Ne Nat q.1 b3 ∧ @Ne Nat q.1 K ∧ @Ne Nat q.1 M ∧ @Ne Nat q.1 Fl ∧ @Ne Nat q.1 A ∧ ∀ p ∈ TT, p.1 ≠ q.1) : Stb H L A ys nA st kv X s₀ { s₀ with heap := h, toks := tk } :=
  ⟨h, tk, m, M, Fl, D, b0, b1, b2, b3, K, u0, u1, u2, u3, tn, e0, e1, e2, e3, e4, e5, e6, e7, mv, nF, nM, nD, nK, TT, o1, o2, o3, o4, o5, o6, o7, o8, o9, v1, v4, v6, v8, v9, rfl, F, fun p hp => N p (sub p hp), eM, eN, d1, d2, d3, d4, d5, d6, d7, d8, d9, hP, hmv, ord, hTT, hX⟩
theorem fr_two {H h : Heap} {L : Addr} {m : Str → Option Value} {a b : Str} {va vb : Value} (F : Fr H L h m) (ea : m a = some va) (eb : m b = some vb) :
    Fr H L h (fun y => if y = a then some va else if y = b then some vb else m y) := by
  have e : (fun y => if y = a then some va else if y = b then some vb else m y) = m := by
    funext y
    split
    · rename_i q; rw [q, ea]
    split
    · rename_i q; rw [q, eb]
    rfl
  rw [e]; exact F
noncomputable def negL (a b c d : Nat) : List (Int × Int) := [(-(a : Int), 0), (-(b : Int), 1), (-(c : Int), 2), (-(d : Int), 3)]
noncomputable def sortL (ps : List (Int × Int)) : List (Int × Int) := (KasRun (pairLt ps) (kas_sort 4)).toList.map fun i => ps.getD i (0, 0)
noncomputable def heldL (sp : List (Int × Int)) : List Int := (sp.filter fun q => decide (q.1 < 0)).map (·.2)
noncomputable def heldJ (sp : List (Int × Int)) (i : Nat) (ys : List Value) : Prop := IntsAre ys (heldL (sp.take i))
theorem held_yes {ps : List (Int × Int)} {i : Nat} {ys : List Value} {t : Tok} (hi : i < ps.length) (h : heldJ ps i ys) (h0 : (ps.getD i (0, 0)).1 < 0) : heldJ ps (i + 1) (ys ++ [.int (ps.getD i (0, 0)).2 t]) := by
  unfold heldJ heldL at h ⊢
  rw [List.take_succ_eq_append_getElem hi, List.filter_append, List.map_append]
  have e : ps.getD i (0, 0) = ps[i] := by simp [hi]
  rw [e] at h0 ⊢
  have e2 : List.filter (fun q : Int × Int => decide (q.1 < 0)) [ps[i]] = [ps[i]] := by simp [h0]
  rw [e2]
  exact h.append (.cons _ _ .nil)
theorem held_no {ps : List (Int × Int)} {i : Nat} {ys : List Value} (hi : i < ps.length) (h : heldJ ps i ys) (h0 : ¬ (ps.getD i (0, 0)).1 < 0) : heldJ ps (i + 1) ys := by
  unfold heldJ heldL at h ⊢
  rw [List.take_succ_eq_append_getElem hi, List.filter_append, List.map_append]
  have e : ps.getD i (0, 0) = ps[i] := by simp [hi]
  rw [e] at h0
  have e2 : List.filter (fun q : Int × Int => decide (q.1 < 0)) [ps[i]] = [] := by simp [h0]
  rw [e2, List.map_nil, List.append_nil]
  exact h
theorem held_all {ps : List (Int × Int)} {ys : List Value} (h : heldJ ps ps.length ys) : IntsAre ys (heldL ps) := by
  unfold heldJ at h; rwa [List.take_length] at h
noncomputable def KasAll {α : Type} (P : α → Bool) : KasT α → Bool
  | .ret a => P a
  | .ask _ _ k => KasAll P (k true) && KasAll P (k false)
theorem kas_all {α : Type} {P : α → Bool} (lt : Nat → Nat → Bool) : ∀ t : KasT α, KasAll P t = true → P (KasRun lt t) = true
  | .ret _, h => h
  | .ask i j k, h => by
    unfold KasAll at h
    rw [Bool.and_eq_true] at h
    refine kas_all lt (k (lt i j)) ?_
    cases lt i j with
    | true => exact h.1
    | false => exact h.2
theorem kas_four : KasAll (fun p : Array Nat => p.toList.all (· < 4) && p.toList.length == 4) (kas_sort 4) = true := by decide +kernel
theorem prs_pick {T : List (Addr × Obj)} {vs : List Value} {ps : List (Int × Int)} (h : Prs T vs ps) : ∀ is : List Nat, (∀ i ∈ is, i < vs.length) → Prs T (is.map fun i => vs.getD i Value.none) (is.map fun i => ps.getD i (0, 0))
  | [], _ => trivial
  | i :: is, hi => by
    obtain ⟨a, ta, tb, e, hm⟩ := h.at i (hi i List.mem_cons_self)
    exact ⟨⟨a, ta, tb, by simp [e], hm⟩, prs_pick h is fun j hj => hi j (List.mem_cons_of_mem _ hj)⟩
theorem prs_sorted {T : List (Addr × Obj)} {vs : List Value} {ps : List (Int × Int)} (h : Prs T vs ps) (h4 : ps.length = 4) : Prs T ((KasRun (pairLt ps) (kas_sort 4)).toList.map fun i => vs.getD i Value.none) (sortL ps) := by
  have k := kas_all (pairLt ps) _ kas_four
  rw [Bool.and_eq_true, List.all_eq_true] at k
  exact prs_pick h _ fun i hi => by rw [h.length, h4]; simpa using k.1 i hi
theorem sortL_len (ps : List (Int × Int)) : (sortL ps).length = 4 := by
  have k := kas_all (pairLt ps) _ kas_four
  rw [Bool.and_eq_true] at k
  unfold sortL
  rw [List.length_map]
  simpa using k.2
theorem comp_keep {h₀ : Heap} {L I C D : Addr} {m : Str → Option Value} {s₁ : Shared} {oI oC oD : Obj} {S : List (Addr × Obj) → Prop} {rest : Value → List (Addr × Obj) → Prop} {y : Value} {h' : Heap} {tk : Nat} {x : Addr × Obj} {news : List (Addr × Obj)}
    (F : Fr h₀ L h' m) (N : News h₀ L h' (x :: (I, oI) :: (C, oC) :: (D, oD) :: news)) (off : LCg.Off3 I C D (x :: news)) (hS : S (x :: news)) (r : rest y (x :: news)) :
    LCg.CompEnd h₀ L m s₁ I oI C oC D oD S rest y { s₁ with heap := h', toks := tk } :=
  LCg.CompEnd.intro F N (x :: news) (fun p hp => by
    rcases List.mem_cons.mp hp with rfl | hp
    · exact .tail _ (.head _)
    rcases List.mem_cons.mp hp with rfl | hp
    · exact .tail _ (.tail _ (.head _))
    rcases List.mem_cons.mp hp with rfl | hp
    · exact .tail _ (.tail _ (.tail _ (.head _)))
    rcases List.mem_cons.mp hp with rfl | hp
    · exact .head _
    · exact .tail _ (.tail _ (.tail _ (.tail _ hp)))) off hS r
theorem sorted_pairs2 {prog : Program} {w : World} {A : Around} {E : Value → Shared → Prop} {s : Shared} {h₀ : Heap} {L : Addr} {m : Str → Option Value} {news : List (Addr × Obj)} {Q : Value → Shared → Prop} {l : Addr} {vs : List Value} {n : Nat} {ps : List (Int × Int)} (F : Fr h₀ L s.heap m) (N : News h₀ L s.heap news) (hm : (l, listOf vs.toArray n) ∈ news) (hP : Prs news vs ps) (h4 : ps.length = 4)
    (h : ∀ D k h' (out : List Value), Fr h₀ L h' m → News h₀ L h' ((D, listOf out.toArray k) :: news) → (∀ p ∈ news, p.1 < D) → Prs ((D, listOf out.toArray k) :: news) out (sortL ps) → Q (.ref D) { s with heap := h' }) :
    wpAny (model prog w) A (call (.builtin "sorted") [.ref l]) Q E s :=
  sorted_pairs F N hm hP h4 fun D k h' F' N' l => h D k h' _ F' N' l (Prs.mono (fun p hp => List.mem_cons_of_mem _ hp) (prs_sorted hP h4))
noncomputable def addG (ks : List Int) (i : Nat) (y : Value) : Prop := ∃ k t, ks[i]? = some k ∧ y = .int (66 + k) t
theorem ints_pick {vs : List Value} {ns : List Int} (h : IntsAre vs ns) {i : Nat} {v : Value} (e : vs.toArray[i]? = some v) : ∃ k t, ns[i]? = some k ∧ v = .int k t := by
  have e' : vs[i]? = some v := by simpa using e
  have hi : i < vs.length := (List.getElem?_eq_some_iff.mp e').1
  have hi2 : i < ns.length := by have := h.length; omega
  obtain ⟨t, ht⟩ := h.get i ns[i] (by simp [hi2])
  rw [e'] at ht
  exact ⟨ns[i], t, by simp [hi2], Option.some.inj ht⟩
theorem ints_add {ks : List Int} {ys : List Value} (hl : ys.length = ks.length) (h : ∀ j, (hj : j < ys.length) → addG ks j ys[j]) : IntsAre ys (ks.map (66 + ·)) := by
  refine ints_of_at (by rw [hl, List.length_map]) fun j hj => ?_
  obtain ⟨k, t, e, q⟩ := h j hj
  exact ⟨t, 66 + k, by rw [List.getElem?_map, e]; rfl, by rw [List.getElem?_eq_getElem hj, q]⟩
theorem opq_post {α : Type} {M : Model} {A : Around} {t : Sem α} {P : α → Shared → Prop} {E : Value → Shared → Prop} {s : Shared} (h : wpAny M A t (fun y s' => Opq (P y s')) E s) : wpAny M A t P E s := h
noncomputable def mapJ (ps : List (Int × Int)) (f : Int × Int → Bool) (i : Nat) (ys : List Value) : Prop := ys = (ps.take i).map fun q => .bool (f q)
theorem map_next {ps : List (Int × Int)} {f : Int × Int → Bool} {i : Nat} {ys : List Value} {b : Bool} (hi : i < ps.length) (h : mapJ ps f i ys) (hb : b = f ((ps.getD i (0, 0)).1, (ps.getD i (0, 0)).2)) : mapJ ps f (i + 1) (ys ++ [.bool b]) := by
  unfold mapJ at h ⊢
  have e : ps.getD i (0, 0) = ps[i] := by simp [hi]
  rw [List.take_succ_eq_append_getElem hi, List.map_append, h, hb, e]
  rfl
theorem map_all {ps : List (Int × Int)} {f : Int × Int → Bool} {ys : List Value} (h : mapJ ps f ps.length ys) : ys = (ps.map f).map .bool := by
  unfold mapJ at h; rw [List.take_length] at h; rw [h, List.map_map]; rfl
theorem and_no {a : Int} {c : Bool} (h : ¬ 0 < a) : false = (decide (0 < a) && c) := by simp [h]
theorem and_no2 {a : Int} {c : Bool} (h : ¬ 0 < a) : decide (0 < a) = (decide (0 < a) && c) := by simp [h]
theorem and_yes {a : Int} {c : Bool} (h : 0 < a) : c = (decide (0 < a) && c) := by simp [h]
theorem rest_mapB {prog : Program} {w : World} {A : Around} {s : Shared} {h₀ : Heap} {L : Addr} {m : Str → Option Value} {env : Env} {elt : Expr} {x : Str} {scope : Scope} {cl : List (Str × Addr)} {P : Nat → Value → Prop} {S : List (Addr × Obj) → Prop} {Fin : List Value → List (Addr × Obj) → Prop} {G : Nat → Value → Prop} {news : List (Addr × Obj)} (hS : S news) (n : Nat)
    (turn : ∀ i v I oI C oC D m₂ h tk ys (E' : Value → Shared → Prop), i < n → P i v → LCg.NsObj oC m₂ → m₂ x = some v → Fr h₀ L h m → News h₀ L h ((I, oI) :: (C, oC) :: (D, LCg.lst ys) :: news) →
      wpAny (model prog w) A (eval elt (compEnvC scope cl C env)) (fun y s₂ => Opq (G i y ∧ ∃ h' tk', s₂ = { s with heap := h', toks := tk' } ∧ Fr h₀ L h' m ∧ News h₀ L h' ((I, oI) :: (C, oC) :: (D, LCg.lst ys) :: news))) E' { s with heap := h, toks := tk })
    (fin : ∀ ys : List Value, ys.length = n → (∀ j, (hj : j < ys.length) → G j ys[j]) → Fin ys news) :
    ∀ k i ys, i + k = n → ys.length = i → (∀ j, (hj : j < ys.length) → G j ys[j]) → LCg.CompRest prog w A h₀ L m env elt x scope cl s S P Fin k i ys news := by
  intro k
  induction k with
  | zero =>
    intro i ys hk hl hg
    exact fin ys (by omega) hg
  | succ k ih =>
    intro i ys hk hl hg
    refine LCg.CompRest.succ fun v I oI C oC D m₂ h tk E' hP hC hx F N off ne => ?_
    refine wpAny_mono (turn i v I oI C oC D m₂ h tk ys E' (by omega) hP hC hx F N) (fun y s₂ h₂ => ?_) fun _ _ e => e
    obtain ⟨hG, h', tk', rfl, F', N'⟩ := h₂
    refine LCg.CompEnd.intro F' N' news (fun p hp => hp) off hS ?_
    refine ih (i + 1) (ys ++ [y]) (by omega) (by simp [hl]) fun j hj => ?_
    rw [List.getElem_append]
    split
    · rename_i hlt; exact hg j hlt
    · rename_i hlt
      have : j = i := by simp at hj; omega
      subst this
      simpa using hG
noncomputable def winB (as : List Int) (len k : Nat) : Bool := ((as.drop (k - len)).take (k - (k - len))).any (· == as.getD k 0)
noncomputable def winL (as : List Int) (len : Nat) : List Bool := (List.range 7).map (winB as len)
noncomputable def winG (as : List Int) (len : Nat) (i : Nat) (y : Value) : Prop := y = .bool (winB as len i)
theorem win_all {as : List Int} {len : Nat} {ys : List Value} (hl : ys.length = 7) (h : ∀ j, (hj : j < ys.length) → winG as len j ys[j]) : ys = (winL as len).map .bool := by
  apply List.ext_getElem
  · simp [winL, hl]
  · intro i h1 h2
    rw [h i h1]
    simp [winL]
theorem win_eq {as : List Int} {i k : Nat} (h7 : as.length = 7) (hk : k < 7) :
    (List.take (min (0 + (k : Int)).toNat as.length - (if 0 + (k : Int) - (1 + (i : Int)) > 0 then 0 + (k : Int) - (1 + (i : Int)) else 0).toNat) (List.drop (if 0 + (k : Int) - (1 + (i : Int)) > 0 then 0 + (k : Int) - (1 + (i : Int)) else 0).toNat as)).any (fun x => x == as.getD (0 + (k : Int)).toNat 0) = winB as (i + 1) k := by
  have e1 : (0 + (k : Int)).toNat = k := by omega
  have e2 : (if 0 + (k : Int) - (1 + (i : Int)) > 0 then 0 + (k : Int) - (1 + (i : Int)) else 0).toNat = k - (i + 1) := by split <;> omega
  rw [e1, e2, h7, Nat.min_eq_left (by omega)]
  rfl
noncomputable def outL (ks : List Int) (n : Nat) : List Int := ((List.range n).map fun k : Nat => 0 + (k : Int)).filter fun k => !(ks.any (· == k))
noncomputable def outJ (ks : List Int) (i : Nat) (ys : List Value) : Prop := IntsAre ys (outL ks i)
theorem out_yes {ks : List Int} {i : Nat} {ys : List Value} {t : Tok} (h : outJ ks i ys) (hb : ks.any (· == 0 + (i : Int)) = false) : outJ ks (i + 1) (ys ++ [.int (0 + (i : Int)) t]) := by
  unfold outJ outL at h ⊢
  rw [List.range_succ, List.map_append, List.filter_append]
  have : List.filter (fun k => !(ks.any (· == k))) [0 + (i : Int)] = [0 + (i : Int)] := by
    rw [List.filter_cons_of_pos (by show (!(ks.any (· == 0 + (i : Int)))) = true; rw [hb]; rfl), List.filter_nil]
  rw [List.map_singleton, this]
  exact h.append (.cons _ _ .nil)
theorem out_no {ks : List Int} {i : Nat} {ys : List Value} (h : outJ ks i ys) (hb : ks.any (· == 0 + (i : Int)) = true) : outJ ks (i + 1) ys := by
  unfold outJ outL at h ⊢
  rw [List.range_succ, List.map_append, List.filter_append]
  have : List.filter (fun k => !(ks.any (· == k))) [0 + (i : Int)] = [] := by
    rw [List.filter_cons_of_neg (by show ¬ (!(ks.any (· == 0 + (i : Int)))) = true; rw [hb]; exact Bool.false_ne_true), List.filter_nil]
  rw [List.map_singleton, this, List.append_nil]
  exact h
theorem ne_same {prog : Program} {w : World} {A : Around} {E : Value → Shared → Prop} {s : Shared} {Q : Value → Shared → Prop} {x y : Str} {t u : Tok} (e : x = y) (h : Q (.bool false) s) : wpAny (model prog w) A (compareOp .NotEq (.str x t) (.str y u)) Q E s := by
  subst e
  refine P.ne_str ?_
  simpa using h
noncomputable def flL (S : St) : List Int := [S.f0, S.f1, S.f2, S.f3]
theorem Stb.elim0 {d0 d1 d2 d3 : Nat} {f0 f1 f2 f3 : Int} {rs : List Nat} {met : List (Int × Int)} {H : Heap} {L A : Addr} {ys : List Value} {nA : Nat} {kv : List Value} {s₀ s' : Shared} {P : Shared → Prop} (hS : Stb H L A ys nA ⟨d0, d1, d2, d3, f0, f1, f2, f3, rs, met⟩ kv [] s₀ s')
    (k : ∀ (h : Heap) (tk : Nat) (m : Str → Option Value) (M Fl D b0 b1 b2 b3 K : Addr) (u0 u1 u2 u3 tn e0 e1 e2 e3 e4 e5 e6 e7 : Tok) (mv : List Value) (nF nM nD nK : Nat) (TT : List (Addr × Obj)) (o1 o2 o3 o4 o5 o6 o7 o8 o9 : Obj) (v1 v4 v6 v8 v9 : Option Value),
      Fr H L h m → News H L h ((D, listOf #[.ref b0, .ref b1, .ref b2, .ref b3] nD) :: (b0, tupO 141 (up d0) e0 e1) :: (b1, tupO 205 (up d1) e2 e3) :: (b2, tupO 269 (up d2) e4 e5) :: (b3, tupO 333 (up d3) e6 e7) ::
      (K, listOf kv.toArray nK) :: (M, listOf mv.toArray nM) :: (Fl, listOf #[.int f0 u0, .int f1 u1, .int f2 u2, .int f3 u3] nF) :: (A, listOf ys.toArray nA) ::
      (L + 1 + 1 + 1 + 1 + 1 + 1 + 1 + 1 + 1, o9) :: (L + 1 + 1 + 1 + 1 + 1 + 1 + 1 + 1, o8) :: (L + 1 + 1 + 1 + 1 + 1 + 1 + 1, o7) :: (L + 1 + 1 + 1 + 1 + 1 + 1, o6) :: (L + 1 + 1 + 1 + 1 + 1, o5) ::
      (L + 1 + 1 + 1 + 1, o4) :: (L + 1 + 1 + 1, o3) :: (L + 1 + 1, o2) :: (L + 1, o1) :: TT) → m (Str.ofString "met") = some (.ref M) → m (Str.ofString "number") = some (.int (apV rs) tn) → o1.data = .cell v1 → o2.data = .cell (some (.ref A)) → o3.data = .cell (some (.ref Fl)) → o4.data = .cell v4 → o5.data = .cell (some (.ref D)) → o6.data = .cell v6 → o7.data = .cell (some (.ref K)) → o8.data = .cell v8 → o9.data = .cell v9 → Prs TT mv met → mv.length ≤ 100 → (@LT.lt Nat instLTNat (L + 9) A ∧ @LT.lt Nat instLTNat (L + 9) M ∧ (Fl ≠ L + 1 + 1 + 1 + 1 ∧ Fl ≠ L + 1 + 1 + 1 + 1 + 1 + 1 + 1 + 1 ∧ Fl ≠ L + 1 + 1 + 1 + 1 + 1 + 1 + 1 + 1 + 1) ∧
      @LT.lt Nat instLTNat (L + 9) D ∧ @LT.lt Nat instLTNat (L + 9) b0 ∧ @LT.lt Nat instLTNat (L + 9) b1 ∧ @LT.lt Nat instLTNat (L + 9) b2 ∧ @LT.lt Nat instLTNat (L + 9) b3 ∧ @LT.lt Nat instLTNat (L + 9) K) → (∀ p ∈ TT, @LT.lt Nat instLTNat (L + 9) p.1) → @LT.lt Nat instLTNat (L + 9) A → @LT.lt Nat instLTNat (L + 9) M → Fl ≠ L + 1 + 1 + 1 + 1 → Fl ≠ L + 1 + 1 + 1 + 1 + 1 + 1 + 1 + 1 → Fl ≠ L + 1 + 1 + 1 + 1 + 1 + 1 + 1 + 1 + 1 → @LT.lt Nat instLTNat (L + 9) D → @LT.lt Nat instLTNat (L + 9) b0 → @LT.lt Nat instLTNat (L + 9) b1 → @LT.lt Nat instLTNat (L + 9) b2 → @LT.lt Nat instLTNat (L + 9) b3 → @LT.lt Nat instLTNat (L + 9) K → P { s₀ with heap := h, toks := tk }) : P s' := by
  cases hS with
  | mk h tk m M Fl D b0 b1 b2 b3 K u0 u1 u2 u3 tn e0 e1 e2 e3 e4 e5 e6 e7 mv nF nM nD nK TT o1 o2 o3 o4 o5 o6 o7 o8 o9 v1 v4 v6 v8 v9 e g0 g1 g2 g3 g4 g5 g6 g7 g8 g9 g10 g11 g12 g13 g14 g15 g16 g17 =>
    subst e
    exact k h tk m M Fl D b0 b1 b2 b3 K u0 u1 u2 u3 tn e0 e1 e2 e3 e4 e5 e6 e7 mv nF nM nD nK TT o1 o2 o3 o4 o5 o6 o7 o8 o9 v1 v4 v6 v8 v9 g0 g1 g2 g3 g4 g5 g6 g7 g8 g9 g10 g11 g12 g13 g14 g15 g16 g15.1 g15.2.1 g15.2.2.1.1 g15.2.2.1.2.1 g15.2.2.1.2.2 g15.2.2.2.1 g15.2.2.2.2.1 g15.2.2.2.2.2.1 g15.2.2.2.2.2.2.1 g15.2.2.2.2.2.2.2.1 g15.2.2.2.2.2.2.2.2
theorem Stb.elim1 {d0 d1 d2 d3 : Nat} {f0 f1 f2 f3 : Int} {rs : List Nat} {met : List (Int × Int)} {H : Heap} {L A : Addr} {ys : List Value} {nA : Nat} {kv : List Value} {I : Addr} {oI : Obj} {s₀ s' : Shared} {P : Shared → Prop} (hS : Stb H L A ys nA ⟨d0, d1, d2, d3, f0, f1, f2, f3, rs, met⟩ kv [(I, oI)] s₀ s')
    (k : ∀ (h : Heap) (tk : Nat) (m : Str → Option Value) (M Fl D b0 b1 b2 b3 K : Addr) (u0 u1 u2 u3 tn e0 e1 e2 e3 e4 e5 e6 e7 : Tok) (mv : List Value) (nF nM nD nK : Nat) (TT : List (Addr × Obj)) (o1 o2 o3 o4 o5 o6 o7 o8 o9 : Obj) (v1 v4 v6 v8 v9 : Option Value),
      Fr H L h m → News H L h ((I, oI) :: (D, listOf #[.ref b0, .ref b1, .ref b2, .ref b3] nD) :: (b0, tupO 141 (up d0) e0 e1) :: (b1, tupO 205 (up d1) e2 e3) :: (b2, tupO 269 (up d2) e4 e5) :: (b3, tupO 333 (up d3) e6 e7) ::
      (K, listOf kv.toArray nK) :: (M, listOf mv.toArray nM) :: (Fl, listOf #[.int f0 u0, .int f1 u1, .int f2 u2, .int f3 u3] nF) :: (A, listOf ys.toArray nA) ::
      (L + 1 + 1 + 1 + 1 + 1 + 1 + 1 + 1 + 1, o9) :: (L + 1 + 1 + 1 + 1 + 1 + 1 + 1 + 1, o8) :: (L + 1 + 1 + 1 + 1 + 1 + 1 + 1, o7) :: (L + 1 + 1 + 1 + 1 + 1 + 1, o6) :: (L + 1 + 1 + 1 + 1 + 1, o5) ::
      (L + 1 + 1 + 1 + 1, o4) :: (L + 1 + 1 + 1, o3) :: (L + 1 + 1, o2) :: (L + 1, o1) :: TT) → m (Str.ofString "met") = some (.ref M) → m (Str.ofString "number") = some (.int (apV rs) tn) → o1.data = .cell v1 → o2.data = .cell (some (.ref A)) → o3.data = .cell (some (.ref Fl)) → o4.data = .cell v4 → o5.data = .cell (some (.ref D)) → o6.data = .cell v6 → o7.data = .cell (some (.ref K)) → o8.data = .cell v8 → o9.data = .cell v9 → Prs TT mv met → mv.length ≤ 100 → (@LT.lt Nat instLTNat (L + 9) A ∧ @LT.lt Nat instLTNat (L + 9) M ∧ (Fl ≠ L + 1 + 1 + 1 + 1 ∧ Fl ≠ L + 1 + 1 + 1 + 1 + 1 + 1 + 1 + 1 ∧ Fl ≠ L + 1 + 1 + 1 + 1 + 1 + 1 + 1 + 1 + 1) ∧
      @LT.lt Nat instLTNat (L + 9) D ∧ @LT.lt Nat instLTNat (L + 9) b0 ∧ @LT.lt Nat instLTNat (L + 9) b1 ∧ @LT.lt Nat instLTNat (L + 9) b2 ∧ @LT.lt Nat instLTNat (L + 9) b3 ∧ @LT.lt Nat instLTNat (L + 9) K) → (∀ p ∈ TT, @LT.lt Nat instLTNat (L + 9) p.1) → (@LT.lt Nat instLTNat (L + 9) I) → (@Ne Nat I D) → (@Ne Nat I b0) → (@Ne Nat I b1) → (@Ne Nat I b2) → (@Ne Nat I b3) → (@Ne Nat I K) → (@Ne Nat I M) → (@Ne Nat I Fl) → (@Ne Nat I A) → (∀ p ∈ TT, p.1 ≠ I) → @LT.lt Nat instLTNat (L + 9) A → @LT.lt Nat instLTNat (L + 9) M → Fl ≠ L + 1 + 1 + 1 + 1 → Fl ≠ L + 1 + 1 + 1 + 1 + 1 + 1 + 1 + 1 → Fl ≠ L + 1 + 1 + 1 + 1 + 1 + 1 + 1 + 1 + 1 → @LT.lt Nat instLTNat (L + 9) D → @LT.lt Nat instLTNat (L + 9) b0 → @LT.lt Nat instLTNat (L + 9) b1 → @LT.lt Nat instLTNat (L + 9) b2 → @LT.lt Nat instLTNat (L + 9) b3 → @LT.lt Nat instLTNat (L + 9) K → P { s₀ with heap := h, toks := tk }) : P s' := by
  cases hS with
  | mk h tk m M Fl D b0 b1 b2 b3 K u0 u1 u2 u3 tn e0 e1 e2 e3 e4 e5 e6 e7 mv nF nM nD nK TT o1 o2 o3 o4 o5 o6 o7 o8 o9 v1 v4 v6 v8 v9 e g0 g1 g2 g3 g4 g5 g6 g7 g8 g9 g10 g11 g12 g13 g14 g15 g16 g17 =>
    subst e
    have gX := g17 (I, oI) (List.mem_singleton.mpr rfl)
    exact k h tk m M Fl D b0 b1 b2 b3 K u0 u1 u2 u3 tn e0 e1 e2 e3 e4 e5 e6 e7 mv nF nM nD nK TT o1 o2 o3 o4 o5 o6 o7 o8 o9 v1 v4 v6 v8 v9 g0 g1 g2 g3 g4 g5 g6 g7 g8 g9 g10 g11 g12 g13 g14 g15 g16 gX.1 gX.2.1 gX.2.2.1 gX.2.2.2.1 gX.2.2.2.2.1 gX.2.2.2.2.2.1 gX.2.2.2.2.2.2.1 gX.2.2.2.2.2.2.2.1 gX.2.2.2.2.2.2.2.2.1 gX.2.2.2.2.2.2.2.2.2.1 gX.2.2.2.2.2.2.2.2.2.2 g15.1 g15.2.1 g15.2.2.1.1 g15.2.2.1.2.1 g15.2.2.1.2.2 g15.2.2.2.1 g15.2.2.2.2.1 g15.2.2.2.2.2.1 g15.2.2.2.2.2.2.1 g15.2.2.2.2.2.2.2.1 g15.2.2.2.2.2.2.2.2
end Mine
end
section
open PySem PySem.W PySem.Calls PyProof.Rows PySem.Spec
set_option maxRecDepth 100000
set_option maxHeartbeats 1000000
namespace Mine
noncomputable def ordN (o : List Nat) (p : Nat) : List Nat := p :: o.erase p
noncomputable def extO (l : List (List Nat)) : List (List Nat) := l.flatMap fun o => ((List.range 4).filter fun p => !o.contains p).map (· :: o)
noncomputable def allO : List (List Nat) := [[]] ++ extO [[]] ++ extO (extO [[]]) ++ extO (extO (extO [[]])) ++ extO (extO (extO (extO [[]])))
/-- a page's place in the order, from one; nought for a page never asked for -/
noncomputable def dc (o : List Nat) (q : Nat) : Nat := if o.contains q then o.idxOf q + 1 else 0
noncomputable def nearO (o : List Nat) (p : Nat) : Nat := ((List.range 4).filter fun q => decide (0 < dc o q) && decide (dc o q < dc o p)).length
noncomputable def flO (o : List Nat) (q : Nat) : Int := if o.contains q then ((((List.range 4).filter fun r => !(o.take (o.idxOf q + 1)).contains r).map fun r => 2 ^ r).sum : Nat) else 0
noncomputable def heldO (o : List Nat) (s : Nat) : List Int := (o.take s).reverse.map Int.ofNat
noncomputable def maskP (p : Nat) : Int := 15 - (2 ^ p : Nat)
noncomputable def allP (f : Nat → Bool) : Bool := f 0 && f 1 && f 2 && f 3
theorem allP_at {f : Nat → Bool} (h : allP f = true) {p : Nat} (hp : p < 4) : f p = true := by
  unfold allP at h
  simp only [Bool.and_eq_true] at h
  match p, hp with
  | 0, _ => exact h.1.1.1
  | 1, _ => exact h.1.1.2
  | 2, _ => exact h.1.2
  | 3, _ => exact h.2
theorem k_mem_ : (allO.all fun o => allP fun p => allO.contains (ordN o p)) = true := by decide +kernel
theorem k_fl : (allO.all fun o => allP fun p => allP fun q => decide (flO (ordN o p) q = if q = p then maskP p else and15 (flO o q) (maskP p))) = true := by decide +kernel
theorem k_dcp : (allO.all fun o => allP fun p => decide (dc (ordN o p) p = 1)) = true := by decide +kernel
theorem k_dcq : (allO.all fun o => allP fun p => allP fun q => decide (q = p) || (decide (dc (ordN o p) q ≠ 1) && decide ((dc (ordN o p) q = 0) ↔ (dc o q = 0)))) = true := by decide +kernel
theorem k_dcl : (allO.all fun o => allP fun p => allP fun q => allP fun r => decide (q = p) || decide (r = p) || decide ((dc (ordN o p) q < dc (ordN o p) r) ↔ (dc o q < dc o r))) = true := by decide +kernel
theorem k_held : (allO.all fun o => allP fun p => allP fun i => (cacheStep (1 + (i : Int)) (heldO o (1 + i), []) (p : Int)).1 == heldO (ordN o p) (1 + i)) = true := by decide +kernel
theorem k_hit : (allO.all fun o => allP fun p => allP fun i => (heldO o (1 + i)).any (· == (p : Int)) == (decide (0 < dc o p) && decide ((nearO o p : Int) < 1 + (i : Int)))) = true := by decide +kernel
theorem k_sort : (allO.all fun o => heldL (sortL (negL (dc o 0) (dc o 1) (dc o 2) (dc o 3))) == heldO o 4) = true := by decide +kernel
theorem k_num : (allO.all fun o => decide ((o.map (· + 1)).Nodup) && (o.map (· + 1)).all (fun d => decide (1 ≤ d) && decide (d ≤ 4)) && decide ((o.map (· + 1)).length ≤ 4) && ((o.map (· + 1)).reverse.map apG == (heldO o 4).map (66 + ·))) = true := by decide +kernel
theorem k_rs : (allO.all fun o => allP fun p => ((p + 1) :: (o.map (· + 1)).erase (p + 1)) == (ordN o p).map (· + 1)) = true := by decide +kernel
theorem k_flag : (allO.all fun o => allP fun i => decide (0 ≤ flO o i) && decide (flO o i < 16) &&
    (if (heldO o 4).any (· == 0 + (i : Int)) then decide (Txt.join (Str.ofString ", ") (pfRest (flO o i)) = nmT ((heldO o 4).take ((heldO o 4).idxOf (0 + (i : Int))) ++ outL (heldO o 4) 4))
      else decide (Txt.join (Str.ofString ", ") (pfRest (flO o i)) = nmT []))) = true := by decide +kernel
end Mine
end
section
open PySem PySem.W PySem.Calls PyProof.Rows PySem.Spec
set_option maxRecDepth 100000
set_option maxHeartbeats 1000000
namespace Mine
noncomputable def dAt (S : St) : Nat → Nat
  | 0 => S.d0
  | 1 => S.d1
  | 2 => S.d2
  | _ => S.d3
noncomputable def fAt (S : St) : Nat → Int
  | 0 => S.f0
  | 1 => S.f1
  | 2 => S.f2
  | _ => S.f3
theorem four {P : Nat → Prop} (h0 : P 0) (h1 : P 1) (h2 : P 2) (h3 : P 3) : ∀ p, p < 4 → P p
  | 0, _ => h0
  | 1, _ => h1
  | 2, _ => h2
  | 3, _ => h3
theorem st_d (S : St) : ∀ p, p < 4 → ∀ q, q < 4 → dAt (stepN S p) q = if q = p then 1 else up (dAt S q) :=
  four (four rfl rfl rfl rfl) (four rfl rfl rfl rfl) (four rfl rfl rfl rfl) (four rfl rfl rfl rfl)
theorem st_f (S : St) : ∀ p, p < 4 → ∀ q, q < 4 → fAt (stepN S p) q = if q = p then maskP p else and15 (fAt S q) (maskP p) :=
  four (four rfl rfl rfl rfl) (four rfl rfl rfl rfl) (four rfl rfl rfl rfl) (four rfl rfl rfl rfl)
theorem st_rs (S : St) : ∀ p, p < 4 → (stepN S p).rs = (p + 1) :: S.rs.erase (p + 1) := four rfl rfl rfl rfl
theorem st_met (S : St) : ∀ p, p < 4 → (stepN S p).met = S.met ++ [metOf S (up (dAt S p))] := four rfl rfl rfl rfl
theorem up_zero {d : Nat} : up d = 0 ↔ d = 0 := by unfold up; split <;> omega
theorem up_lt {a b : Nat} : up a < up b ↔ a < b := by unfold up; split <;> split <;> omega
structure Inv (as : List Int) (o : List Nat) : Prop where
  mem : o ∈ allO
  rs : (run as).rs = o.map (· + 1)
  fl : ∀ q, q < 4 → fAt (run as) q = flO o q
  dz : ∀ q, q < 4 → (dAt (run as) q = 0 ↔ dc o q = 0)
  dl : ∀ q, q < 4 → ∀ r, r < 4 → (dAt (run as) q < dAt (run as) r ↔ dc o q < dc o r)
  ca : ∀ i : Nat, i < 4 → cacheF (1 + (i : Int)) as = (heldO o (1 + i), (run as).met.map fun q => decide (0 < q.1) && decide (q.2 < 1 + (i : Int)))
  wn : ∀ q : Nat, q < 4 → ∀ l : Nat, (as.drop (as.length - l)).any (· == (q : Int)) = (decide (0 < dAt (run as) q) && decide (dAt (run as) q ≤ l))
  wl : ∀ l : Nat, (run as).met.map (fun q => decide (0 < q.1) && decide (q.1 ≤ (l : Int) + 1)) = (List.range as.length).map (winB as l)
theorem inv_nil : Inv [] [] where
  mem := by decide
  rs := rfl
  fl := four rfl rfl rfl rfl
  dz := four (by decide) (by decide) (by decide) (by decide)
  dl := four (four (by decide) (by decide) (by decide) (by decide)) (four (by decide) (by decide) (by decide) (by decide)) (four (by decide) (by decide) (by decide) (by decide)) (four (by decide) (by decide) (by decide) (by decide))
  ca := four rfl rfl rfl rfl
  wn := fun q hq l => by
    have h0 : dAt (run []) q = 0 := four (P := fun q => dAt (run []) q = 0) rfl rfl rfl rfl q hq
    rw [h0]; simp
  wl := fun l => rfl
theorem cnt4 {α β : Type} (f : α → Bool) (g : β → Bool) (a0 a1 a2 a3 : α) (b0 b1 b2 b3 : β) (h0 : f a0 = g b0) (h1 : f a1 = g b1) (h2 : f a2 = g b2) (h3 : f a3 = g b3) :
    ([a0, a1, a2, a3].filter f).length = ([b0, b1, b2, b3].filter g).length := by
  simp only [List.filter, h0, h1, h2, h3]
  cases g b0 <;> cases g b1 <;> cases g b2 <;> cases g b3 <;> rfl
theorem near_eq {S : St} {o : List Nat} (dz : ∀ q, q < 4 → (dAt S q = 0 ↔ dc o q = 0)) (dl : ∀ q, q < 4 → ∀ r, r < 4 → (dAt S q < dAt S r ↔ dc o q < dc o r)) {p : Nat} (hp : p < 4) :
    nearL (told4L (up S.d0) (up S.d1) (up S.d2) (up S.d3)) (up (dAt S p) : Nat) = nearO o p := by
  have key : ∀ q, q < 4 → (decide (0 < ((up (dAt S q) : Nat) : Int)) && decide (((up (dAt S q) : Nat) : Int) < ((up (dAt S p) : Nat) : Int))) = (decide (0 < dc o q) && decide (dc o q < dc o p)) := fun q hq => by
    have e1 : (0 < ((up (dAt S q) : Nat) : Int)) ↔ 0 < dc o q := by
      have := dz q hq; have := @up_zero (dAt S q); omega
    have e2 : (((up (dAt S q) : Nat) : Int) < ((up (dAt S p) : Nat) : Int)) ↔ dc o q < dc o p := by
      rw [← dl q hq p hp, ← up_lt (a := dAt S q)]; omega
    rw [decide_eq_decide.mpr e1, decide_eq_decide.mpr e2]
  have k0 := key 0 (by decide)
  have k1 := key 1 (by decide)
  have k2 := key 2 (by decide)
  have k3 := key 3 (by decide)
  simp only [dAt] at k0 k1 k2 k3
  exact cnt4 (fun q : Int × Int => decide (0 < q.2) && decide (q.2 < ((up (dAt S p) : Nat) : Int))) (fun q => decide (0 < dc o q) && decide (dc o q < dc o p)) (141, _) (205, _) (269, _) (333, _) 0 1 2 3 k0 k1 k2 k3
theorem winB_old {as : List Int} {a : Int} {l k : Nat} (hk : k < as.length) : winB (as ++ [a]) l k = winB as l k := by
  unfold winB
  have e1 : (as ++ [a]).getD k 0 = as.getD k 0 := by
    rw [List.getD_eq_getElem?_getD, List.getD_eq_getElem?_getD, List.getElem?_append_left hk]
  rw [e1, List.drop_append_of_le_length (by omega), List.take_append_of_le_length (by rw [List.length_drop]; omega)]
theorem winB_new {as : List Int} {a : Int} {l : Nat} : winB (as ++ [a]) l as.length = (as.drop (as.length - l)).any (· == a) := by
  unfold winB
  have e1 : (as ++ [a]).getD as.length 0 = a := by
    rw [List.getD_eq_getElem?_getD, List.getElem?_append_right (Nat.le_refl _), Nat.sub_self]; rfl
  rw [e1, List.drop_append_of_le_length (by omega), List.take_append_of_le_length (by rw [List.length_drop]; omega), List.take_of_length_le (by rw [List.length_drop]; omega)]
theorem run_app (as : List Int) (p : Nat) : run (as ++ [(p : Int)]) = stepN (run as) p := by
  unfold run
  rw [List.foldl_append]
  rfl
theorem cache_app (s : Int) (as : List Int) (p : Int) : cacheF s (as ++ [p]) = cacheStep s (cacheF s as) p := by
  unfold cacheF
  rw [List.foldl_append]
  rfl
theorem atO {f : List Nat → Bool} (h : allO.all f = true) {o : List Nat} (ho : o ∈ allO) : f o = true := List.all_eq_true.mp h o ho
theorem inv_step {as : List Int} {o : List Nat} (I : Inv as o) {p : Nat} (hp : p < 4) : Inv (as ++ [(p : Int)]) (ordN o p) := by
  have hdp := of_decide_eq_true (allP_at (atO k_dcp I.mem) hp)
  have hdq : ∀ q, q < 4 → q ≠ p → dc (ordN o p) q ≠ 1 ∧ (dc (ordN o p) q = 0 ↔ dc o q = 0) := fun q hq ne => by
    have := allP_at (allP_at (atO k_dcq I.mem) hp) hq
    simpa [ne] using this
  have hdl : ∀ q, q < 4 → ∀ r, r < 4 → q ≠ p → r ≠ p → (dc (ordN o p) q < dc (ordN o p) r ↔ dc o q < dc o r) := fun q hq r hr n1 n2 => by
    have := allP_at (allP_at (allP_at (atO k_dcl I.mem) hp) hq) hr
    simpa [n1, n2] using this
  have hd : ∀ q, q < 4 → dAt (run (as ++ [(p : Int)])) q = if q = p then 1 else up (dAt (run as) q) := fun q hq => by rw [run_app, st_d _ p hp q hq]
  have hpa : 0 < ((up (dAt (run as) p) : Nat) : Int) ↔ 0 < dc o p := by
    have := I.dz p hp; have := @up_zero (dAt (run as) p); omega
  constructor
  · exact List.contains_iff_mem.mp (allP_at (atO k_mem_ I.mem) hp)
  · rw [run_app, st_rs _ p hp, I.rs]
    exact eq_of_beq (allP_at (atO k_rs I.mem) hp)
  · intro q hq
    rw [run_app, st_f _ p hp q hq, I.fl q hq]
    exact (of_decide_eq_true (allP_at (allP_at (atO k_fl I.mem) hp) hq)).symm
  · intro q hq
    rw [hd q hq]
    by_cases e : q = p
    · subst e; rw [if_pos rfl, hdp]
    · rw [if_neg e, up_zero, I.dz q hq, (hdq q hq e).2]
  · intro q hq r hr
    rw [hd q hq, hd r hr]
    by_cases e : q = p
    · subst e
      rw [if_pos rfl, hdp]
      by_cases e2 : r = q
      · subst e2; rw [if_pos rfl, hdp]
      · rw [if_neg e2]
        have h1 := hdq r hr e2
        have h2 := I.dz r hr
        unfold up
        split <;> omega
    · rw [if_neg e]
      by_cases e2 : r = p
      · subst e2
        rw [if_pos rfl, hdp]
        have h1 := hdq q hq e
        have h2 := I.dz q hq
        unfold up
        split <;> omega
      · rw [if_neg e2, up_lt, I.dl q hq r hr, hdl q hq r hr e e2]
  · intro i hi
    rw [cache_app, I.ca i hi, run_app, st_met _ p hp, List.map_append]
    have h1 := eq_of_beq (allP_at (allP_at (atO k_held I.mem) hp) hi)
    have h2 := eq_of_beq (allP_at (allP_at (atO k_hit I.mem) hp) hi)
    unfold cacheStep at h1 ⊢
    dsimp only at h1 ⊢
    rw [h1, h2]
    congr 2
    simp only [List.map_cons, List.map_nil, metOf, near_eq I.dz I.dl hp]
    rw [decide_eq_decide.mpr hpa]
  · intro q hq l
    rw [hd q hq, List.length_append, List.length_singleton]
    cases l with
    | zero =>
      rw [Nat.sub_zero, List.drop_of_length_le (by simp)]
      by_cases e : q = p
      · rw [if_pos e]; rfl
      · rw [if_neg e, List.any_nil]
        symm
        rw [Bool.and_eq_false_iff]
        by_cases z : 0 < up (dAt (run as) q)
        · right; exact decide_eq_false (by omega)
        · left; exact decide_eq_false z
    | succ l =>
      rw [Nat.add_sub_add_right, List.drop_append_of_le_length (by omega), List.any_append, I.wn q hq l]
      by_cases e : q = p
      · rw [if_pos e, e]; simp
      · rw [if_neg e]
        have e3 : ([(p : Int)].any fun x => x == (q : Int)) = false := by
          simp; omega
        rw [e3, Bool.or_false, ← Bool.decide_and, ← Bool.decide_and]
        refine decide_eq_decide.mpr ?_
        unfold up
        split <;> omega
  · intro l
    rw [run_app, st_met _ p hp, List.map_append, I.wl l, List.length_append, List.length_singleton, List.range_succ, List.map_append]
    congr 1
    · refine List.map_congr_left fun k hk => ?_
      exact (winB_old (List.mem_range.mp hk)).symm
    · simp only [List.map_cons, List.map_nil, metOf]
      rw [winB_new, I.wn p hp l, ← Bool.decide_and, ← Bool.decide_and]
      congr 1
      refine decide_eq_decide.mpr ?_
      unfold up
      split <;> omega
theorem inv_all : ∀ (bs as : List Int) (o : List Nat), (∀ k ∈ bs, 0 ≤ k ∧ k < 4) → Inv as o → ∃ o', Inv (as ++ bs) o'
  | [], as, o, _, I => ⟨o, by rw [List.append_nil]; exact I⟩
  | b :: bs, as, o, h, I => by
    obtain ⟨p, rfl⟩ : ∃ p : Nat, b = (p : Int) := ⟨b.toNat, by have := h b List.mem_cons_self; omega⟩
    have hp : p < 4 := by have := h _ (List.mem_cons_self (a := (p : Int)) (l := bs)); omega
    have := inv_all bs (as ++ [(p : Int)]) (ordN o p) (fun k hk => h k (List.mem_cons_of_mem _ hk)) (inv_step I hp)
    rw [List.append_assoc] at this
    exact this
theorem outL_len (ks : List Int) : (outL ks 4).length ≤ 4 := by
  unfold outL
  refine Nat.le_trans (List.length_filter_le _ _) ?_
  rw [List.length_map, List.length_range]
  exact Nat.le_refl 4
theorem inv_of (as : List Int) (hb : ∀ k ∈ as, 0 ≤ k ∧ k < 4) : ∃ o, Inv as o := inv_all as [] [] hb inv_nil
/-- the sort sees of the ages just their order -/
noncomputable def nv (a b c d : Nat) : Nat → Nat
  | 0 => a
  | 1 => b
  | 2 => c
  | 3 => d
  | _ => 0
theorem neg_at (a b c d : Nat) : ∀ i, (negL a b c d).getD i (0, 0) = (-((nv a b c d i : Nat) : Int), ((if i < 4 then i else 0 : Nat) : Int))
  | 0 => rfl
  | 1 => rfl
  | 2 => rfl
  | 3 => rfl
  | n + 4 => by
    have : ¬ n + 4 < 4 := by omega
    rw [if_neg this]; rfl
theorem held_cong {a b c d a' b' c' d' : Nat} (hz : ∀ i, nv a b c d i = 0 ↔ nv a' b' c' d' i = 0) (hl : ∀ i j, nv a b c d i < nv a b c d j ↔ nv a' b' c' d' i < nv a' b' c' d' j) :
    heldL (sortL (negL a b c d)) = heldL (sortL (negL a' b' c' d')) := by
  have e : pairLt (negL a b c d) = pairLt (negL a' b' c' d') := by
    funext i j
    unfold pairLt
    simp only [neg_at]
    have h1 := hl i j
    have h2 := hl j i
    have q1 : (-((nv a b c d i : Nat) : Int) == -((nv a b c d j : Nat) : Int)) = (-((nv a' b' c' d' i : Nat) : Int) == -((nv a' b' c' d' j : Nat) : Int)) := by
      rw [Bool.eq_iff_iff, beq_iff_eq, beq_iff_eq]; omega
    have q2 : decide (-((nv a b c d i : Nat) : Int) < -((nv a b c d j : Nat) : Int)) = decide (-((nv a' b' c' d' i : Nat) : Int) < -((nv a' b' c' d' j : Nat) : Int)) := decide_eq_decide.mpr (by omega)
    rw [q1, q2]
  unfold sortL
  rw [e]
  generalize (KasRun (pairLt (negL a' b' c' d')) (kas_sort 4)).toList = P
  unfold heldL
  induction P with
  | nil => rfl
  | cons i P ih =>
    rw [List.map_cons, List.map_cons, List.filter_cons, List.filter_cons]
    have h3 := hz i
    have q3 : decide (((negL a b c d).getD i (0, 0)).1 < 0) = decide (((negL a' b' c' d').getD i (0, 0)).1 < 0) := by
      rw [neg_at, neg_at]; exact decide_eq_decide.mpr (by dsimp only; omega)
    rw [q3]
    split
    · rw [List.map_cons, List.map_cons, ih, neg_at, neg_at]
    · exact ih
theorem sort_fact (as : List Int) (hb : ∀ k ∈ as, 0 ≤ k ∧ k < 4) : heldL (sortL (negL (up (run as).d0) (up (run as).d1) (up (run as).d2) (up (run as).d3))) = (cacheF 4 as).1 := by
  obtain ⟨o, I⟩ := inv_of as hb
  have h := congrArg Prod.fst (I.ca 3 (by decide))
  rw [show (1 + ((3 : Nat) : Int)) = 4 from rfl] at h
  rw [h, ← eq_of_beq (atO k_sort I.mem)]
  have e : ∀ i, nv (up (run as).d0) (up (run as).d1) (up (run as).d2) (up (run as).d3) i = if i < 4 then up (dAt (run as) i) else 0
    | 0 => rfl
    | 1 => rfl
    | 2 => rfl
    | 3 => rfl
    | n + 4 => by rw [if_neg (by omega)]; rfl
  have e' : ∀ i, nv (dc o 0) (dc o 1) (dc o 2) (dc o 3) i = if i < 4 then dc o i else 0
    | 0 => rfl
    | 1 => rfl
    | 2 => rfl
    | 3 => rfl
    | n + 4 => by rw [if_neg (by omega)]; rfl
  refine held_cong (fun i => ?_) fun i j => ?_
  · rw [e, e']
    by_cases hi : i < 4
    · rw [if_pos hi, if_pos hi, up_zero]; exact I.dz i hi
    · rw [if_neg hi, if_neg hi]
  · rw [e, e', e, e']
    by_cases hi : i < 4
    · by_cases hj : j < 4
      · rw [if_pos hi, if_pos hi, if_pos hj, if_pos hj, up_lt]; exact I.dl i hi j hj
      · rw [if_neg hj, if_neg hj]; omega
    · by_cases hj : j < 4
      · rw [if_neg hi, if_neg hi, if_pos hj, if_pos hj]
        have := I.dz j hj
        have := @up_zero (dAt (run as) j)
        omega
      · rw [if_neg hi, if_neg hi, if_neg hj, if_neg hj]
theorem num_fact (as : List Int) (hb : ∀ k ∈ as, 0 ≤ k ∧ k < 4) : (run as).rs.Nodup ∧ (∀ d ∈ (run as).rs, 1 ≤ d ∧ d ≤ 4) ∧ (run as).rs.length ≤ 4 ∧ (run as).rs.reverse.map apG = (cacheF 4 as).1.map (66 + ·) := by
  obtain ⟨o, I⟩ := inv_of as hb
  have h := congrArg Prod.fst (I.ca 3 (by decide))
  rw [show (1 + ((3 : Nat) : Int)) = 4 from rfl] at h
  have k := atO k_num I.mem
  simp only [Bool.and_eq_true, decide_eq_true_eq, List.all_eq_true] at k
  obtain ⟨⟨⟨k1, k2⟩, k3⟩, k4⟩ := k
  rw [I.rs, h]
  exact ⟨k1, k2, k3, eq_of_beq k4⟩
theorem size_fact (as : List Int) (hb : ∀ k ∈ as, 0 ≤ k ∧ k < 4) : ∀ i : Nat, i < 4 → (run as).met.map (fun q => decide (0 < q.1) && decide (q.2 < 1 + (i : Int))) = (cacheF (1 + (i : Int)) as).2 := fun i hi => by
  obtain ⟨o, I⟩ := inv_of as hb
  rw [I.ca i hi]
theorem win_fact (as : List Int) (h7 : as.length = 7) (hb : ∀ k ∈ as, 0 ≤ k ∧ k < 4) : ∀ i : Nat, i < 6 → (run as).met.map (fun q => decide (0 < q.1) && decide (q.1 ≤ 1 + (i : Int) + 1)) = winL as (i + 1) := fun i _ => by
  obtain ⟨o, I⟩ := inv_of as hb
  have h := I.wl (i + 1)
  rw [h7] at h
  rw [show (1 + (i : Int)) = ((i + 1 : Nat) : Int) by omega]
  exact h
theorem flag_fact (as : List Int) (hb : ∀ k ∈ as, 0 ≤ k ∧ k < 4) : ∀ i : Nat, i < 4 → 0 ≤ (flL (run as)).getD (0 + (i : Int)).toNat 0 ∧ (flL (run as)).getD (0 + (i : Int)).toNat 0 < 16 ∧
    ((cacheF 4 as).1.any (· == 0 + (i : Int)) = true → Txt.join (Str.ofString ", ") (pfRest ((flL (run as)).getD (0 + (i : Int)).toNat 0)) = nmT ((cacheF 4 as).1.take ((cacheF 4 as).1.idxOf (0 + (i : Int))) ++ outL (cacheF 4 as).1 4)) ∧
    ((cacheF 4 as).1.any (· == 0 + (i : Int)) = false → Txt.join (Str.ofString ", ") (pfRest ((flL (run as)).getD (0 + (i : Int)).toNat 0)) = nmT []) := fun i hi => by
  obtain ⟨o, I⟩ := inv_of as hb
  have h := congrArg Prod.fst (I.ca 3 (by decide))
  rw [show (1 + ((3 : Nat) : Int)) = 4 from rfl] at h
  have e1 : (0 + (i : Int)).toNat = i := by omega
  have e2 : (flL (run as)).getD i 0 = fAt (run as) i := four (P := fun i => (flL (run as)).getD i 0 = fAt (run as) i) rfl rfl rfl rfl i hi
  rw [e1, e2, I.fl i hi, h]
  have k := allP_at (atO k_flag I.mem) hi
  simp only [Bool.and_eq_true, decide_eq_true_eq] at k
  obtain ⟨⟨k1, k2⟩, k3⟩ := k
  refine ⟨k1, k2, fun hy => ?_, fun hn => ?_⟩
  · rw [if_pos hy] at k3; exact of_decide_eq_true k3
  · rw [if_neg (by rw [hn]; exact Bool.false_ne_true)] at k3; exact of_decide_eq_true k3
end Mine
end
section
open PySem PySem.W PySem.Calls PyProof.Rows PySem.Spec
set_option maxRecDepth 100000
set_option maxHeartbeats 1000000
namespace Mine
/-- the dots of a page that is not known -/
noncomputable def dsel (d0 d1 d2 d3 : Nat) (p : Int) : Nat := dAt ⟨d0, d1, d2, d3, 0, 0, 0, 0, [], []⟩ p.toNat
section
variable {prog : Program} {w : World} {A : Around} {E : Value → Shared → Prop} {s : Shared} {h₀ : Heap} {L : Addr} {m : Str → Option Value} {news : List (Addr × Obj)} {Q : Value → Shared → Prop}
/-- one of three texts, by an index that is not known: what holds of each of them holds of it -/
theorem sub_sep {value slice : PySem.Expr} {D : Addr} {a b c : Str} {ta tb tc u : Tok} {k : Int} {n : Nat} {P : Str → Prop} (N : News h₀ L s.heap news) (hm : (D, ({ cls := .type "tuple", data := .seq #[.str a ta, .str b tb, .str c tc] n } : Obj)) ∈ news) (pa : P a) (pb : P b) (pc : P c)
    (h : ∀ x t, P x → Q (.str x t) s)
    (hs : subscripted slice false (.ref D) (.int (k.fmod 3) u) = operate [.ref D, .int (k.fmod 3) u] (getItem (.ref D) (.int (k.fmod 3) u)) := by with_unfolding_all rfl) :
    wpAny (model prog w) A (subscriptTail value slice (.ref D) (.int (k.fmod 3) u)) Q E s := by
  have h0 : 0 ≤ k.fmod 3 := Int.fmod_nonneg_of_pos _ (by decide)
  have h3 : k.fmod 3 < 3 := Int.fmod_lt_of_pos _ (by decide)
  generalize k.fmod 3 = i at h0 h3 hs ⊢
  have hi : i = 0 ∨ i = 1 ∨ i = 2 := by omega
  have ht : IsTup s.heap D (List.toArray [.str a ta, .str b tb, .str c tc]) := News.isTup N hm
  rcases hi with rfl | rfl | rfl
  · exact item_tupleT (hs := hs) ht (by decide) (by decide) rfl rfl (h _ _ pa)
  · exact item_tupleT (hs := hs) ht (by decide) (by decide) rfl rfl (h _ _ pb)
  · exact item_tupleT (hs := hs) ht (by decide) (by decide) rfl rfl (h _ _ pc)
/-- a page's place in what was told, by a page that is not known -/
theorem told_at {value slice : PySem.Expr} {D b0 b1 b2 b3 : Addr} {n d0 d1 d2 d3 dq : Nat} {p : Int} {u e0 e1 e2 e3 e4 e5 e6 e7 : Tok} (hd : up (dsel d0 d1 d2 d3 p) = dq) (hp : p = 0 ∨ p = 1 ∨ p = 2 ∨ p = 3) (N : News h₀ L s.heap news) (hm : (D, listOf #[.ref b0, .ref b1, .ref b2, .ref b3] n) ∈ news)
    (m0 : (b0, tupO 141 (up d0) e0 e1) ∈ news) (m1 : (b1, tupO 205 (up d1) e2 e3) ∈ news) (m2 : (b2, tupO 269 (up d2) e4 e5) ∈ news) (m3 : (b3, tupO 333 (up d3) e6 e7) ∈ news)
    (h : ∀ (b : Addr) (k : Int) (e e' : Tok), (b, tupO k dq e e') ∈ news → Q (.ref b) s)
    (hs : subscripted slice false (.ref D) (.int p u) = operate [.ref D, .int p u] (getItem (.ref D) (.int p u)) := by with_unfolding_all rfl) :
    wpAny (model prog w) A (subscriptTail value slice (.ref D) (.int p u)) Q E s := by
  subst hd
  have hl : s.heap.IsList D (List.toArray [.ref b0, .ref b1, .ref b2, .ref b3]) := News.isList N hm
  rcases hp with rfl | rfl | rfl | rfl
  · exact item_litK (hs := hs) hl (by decide) (by decide) rfl (h b0 _ _ _ m0)
  · exact item_litK (hs := hs) hl (by decide) (by decide) rfl (h b1 _ _ _ m1)
  · exact item_litK (hs := hs) hl (by decide) (by decide) rfl (h b2 _ _ _ m2)
  · exact item_litK (hs := hs) hl (by decide) (by decide) rfl (h b3 _ _ _ m3)
end
/-- what a text must be, to part the rows of a mail -/
noncomputable def SepP (d0 d1 d2 d3 : Nat) (x : Str) : Prop := stuffF true (eolF (Txt.join x (rows5 d0 d1 d2 d3)).cps.toList) = mailL (up d0) (up d1) (up d2) (up d3) ∧ (Txt.join x (rows5 d0 d1 d2 d3)).cps.size ≤ 2 ^ 19 ∧ x.length ≤ 16
theorem sep_n {S : St} {n : Nat} (hD : Dle S n) (hn : n ≤ 100) : SepP S.d0 S.d1 S.d2 S.d3 (Str.ofString "\n") := ⟨mail_n _ _ _ _, join_fit _ (by decide) hD hn, by decide⟩
theorem sep_r {S : St} {n : Nat} (hD : Dle S n) (hn : n ≤ 100) : SepP S.d0 S.d1 S.d2 S.d3 (Str.ofString "\r") := ⟨mail_r _ _ _ _, join_fit _ (by decide) hD hn, by decide⟩
theorem sep_rn {S : St} {n : Nat} (hD : Dle S n) (hn : n ≤ 100) : SepP S.d0 S.d1 S.d2 S.d3 (Str.ofString "\r\n") := ⟨mail_rn _ _ _ _, join_fit _ (by decide) hD hn, by decide⟩
end Mine
end
section
open PySem PySem.W PySem.Calls PyProof.Rows PySem.Spec
set_option maxRecDepth 100000
set_option maxHeartbeats 1000000
namespace Mine
/-- the ledger's tail that a stage does not touch, as one variable -/
theorem hide_led {h₀ h : Heap} {L : Addr} {news : List (Addr × Obj)} {P : Prop} (N : News h₀ L h news) (ex : List (Addr × Obj)) (q1 q2 q3 q4 q5 q6 q7 q8 q9 q10 q11 : Addr × Obj) (TT : List (Addr × Obj)) (hs : ∀ p ∈ ex ++ q1 :: q2 :: q3 :: q4 :: q5 :: q6 :: q7 :: q8 :: q9 :: q10 :: q11 :: TT, p ∈ news)
    (k : ∀ led : List (Addr × Obj), q1 ∈ led → q2 ∈ led → q3 ∈ led → q4 ∈ led → q5 ∈ led → q6 ∈ led → q7 ∈ led → q8 ∈ led → q9 ∈ led → q10 ∈ led → q11 ∈ led → (∀ p ∈ TT, p ∈ led) → (∀ p ∈ led, p ∈ q1 :: q2 :: q3 :: q4 :: q5 :: q6 :: q7 :: q8 :: q9 :: q10 :: q11 :: TT) → News h₀ L h (ex ++ led) → P) : P := by
  refine k (q1 :: q2 :: q3 :: q4 :: q5 :: q6 :: q7 :: q8 :: q9 :: q10 :: q11 :: TT) ?_ ?_ ?_ ?_ ?_ ?_ ?_ ?_ ?_ ?_ ?_ ?_ (fun _ h => h) (fun p hp => N p (hs p hp))
  · simp
  · simp
  · simp
  · simp
  · simp
  · simp
  · simp
  · simp
  · simp
  · simp
  · simp
  · intro p hp
    simp [hp]
theorem off_back {l led : List (Addr × Obj)} {a : Addr} (hb : ∀ p ∈ led, p ∈ l) (h : ∀ p ∈ l, p.1 ≠ a) : ∀ p ∈ led, p.1 ≠ a := fun p hp => h p (hb p hp)
noncomputable def readJ (ps : List (Int × Int)) (i : Nat) (ys : List Value) : Prop := IntsAre ys ((ps.take i).map (·.1))
theorem readJ_next {ps : List (Int × Int)} {i : Nat} {ys : List Value} {t : Tok} (hi : i < ps.length) (h : readJ ps i ys) : readJ ps (i + 1) (ys ++ [.int (ps.getD i (0, 0)).1 t]) := by
  unfold readJ at h ⊢
  rw [List.take_succ_eq_append_getElem hi, List.map_append]
  have e : ps.getD i (0, 0) = ps[i] := by simp [hi]
  rw [e]
  exact h.append (.cons _ _ .nil)
theorem ints_four {ys : List Value} {a b c d : Int} (h : IntsAre ys [a, b, c, d]) : ∃ t0 t1 t2 t3, ys = [.int a t0, .int b t1, .int c t2, .int d t3] := by
  cases h with
  | cons _ t0 h => cases h with
    | cons _ t1 h => cases h with
      | cons _ t2 h => cases h with
        | cons _ t3 h => cases h with
          | nil => exact ⟨t0, t1, t2, t3, rfl⟩

theorem neI {L I : Nat} (h : L + 9 < I) (k : Nat) (hk : k ≤ 9) : L + k ≠ I := by omega
theorem cell_off {L I : Addr} (x1 : @LT.lt Nat instLTNat (L + 9) I) {TT : List (Addr × Obj)} (x7 : ∀ p ∈ TT, p.1 ≠ I) {o1 o2 o3 o4 o5 o6 o7 o8 o9 : Obj} : ∀ p ∈ (L + 1 + 1 + 1 + 1 + 1 + 1 + 1 + 1 + 1, o9) :: (L + 1 + 1 + 1 + 1 + 1 + 1 + 1 + 1, o8) :: (L + 1 + 1 + 1 + 1 + 1 + 1 + 1, o7) :: (L + 1 + 1 + 1 + 1 + 1 + 1, o6) :: (L + 1 + 1 + 1 + 1 + 1, o5) :: (L + 1 + 1 + 1 + 1, o4) :: (L + 1 + 1 + 1, o3) :: (L + 1 + 1, o2) :: (L + 1, o1) :: TT, p.1 ≠ I := by
  exact List.forall_mem_cons.mpr ⟨neI x1 9 (by decide), List.forall_mem_cons.mpr ⟨neI x1 8 (by decide), List.forall_mem_cons.mpr ⟨neI x1 7 (by decide), List.forall_mem_cons.mpr ⟨neI x1 6 (by decide), List.forall_mem_cons.mpr ⟨neI x1 5 (by decide), List.forall_mem_cons.mpr ⟨neI x1 4 (by decide), List.forall_mem_cons.mpr ⟨neI x1 3 (by decide), List.forall_mem_cons.mpr ⟨neI x1 2 (by decide), List.forall_mem_cons.mpr ⟨neI x1 1 (by decide), x7⟩⟩⟩⟩⟩⟩⟩⟩⟩
/-- the turn's iterator is none of the objects at the head of a turn -/
theorem sta_off {L I M Fl R W A : Addr} {oM oF oR oW oA o1 o2 o3 o4 o5 o6 o7 o8 o9 : Obj} {TT : List (Addr × Obj)} (x1 : @LT.lt Nat instLTNat (L + 9) I) (x2 : @Ne Nat I M) (x3 : @Ne Nat I Fl) (x4 : @Ne Nat I R) (x5 : @Ne Nat I W) (x6 : @Ne Nat I A) (x7 : ∀ p ∈ TT, p.1 ≠ I) :
    ∀ p ∈ (M, oM) :: (Fl, oF) :: (R, oR) :: (W, oW) :: (A, oA) :: (L + 1 + 1 + 1 + 1 + 1 + 1 + 1 + 1 + 1, o9) :: (L + 1 + 1 + 1 + 1 + 1 + 1 + 1 + 1, o8) :: (L + 1 + 1 + 1 + 1 + 1 + 1 + 1, o7) :: (L + 1 + 1 + 1 + 1 + 1 + 1, o6) :: (L + 1 + 1 + 1 + 1 + 1, o5) :: (L + 1 + 1 + 1 + 1, o4) :: (L + 1 + 1 + 1, o3) :: (L + 1 + 1, o2) :: (L + 1, o1) :: TT, p.1 ≠ I :=
  List.forall_mem_cons.mpr ⟨x2.symm, List.forall_mem_cons.mpr ⟨x3.symm, List.forall_mem_cons.mpr ⟨x4.symm, List.forall_mem_cons.mpr ⟨x5.symm, List.forall_mem_cons.mpr ⟨x6.symm, cell_off x1 x7⟩⟩⟩⟩⟩
theorem stb_off {L I D b0 b1 b2 b3 K M Fl A : Addr} {oD p0 p1 p2 p3 oK oM oF oA o1 o2 o3 o4 o5 o6 o7 o8 o9 : Obj} {TT : List (Addr × Obj)} (x1 : @LT.lt Nat instLTNat (L + 9) I) (x2 : @Ne Nat I D) (x3 : @Ne Nat I b0) (x4 : @Ne Nat I b1) (x5 : @Ne Nat I b2) (x6 : @Ne Nat I b3) (x7 : @Ne Nat I K) (x8 : @Ne Nat I M) (x9 : @Ne Nat I Fl) (x10 : @Ne Nat I A) (x11 : ∀ p ∈ TT, p.1 ≠ I) :
    ∀ p ∈ (D, oD) :: (b0, p0) :: (b1, p1) :: (b2, p2) :: (b3, p3) :: (K, oK) :: (M, oM) :: (Fl, oF) :: (A, oA) :: (L + 1 + 1 + 1 + 1 + 1 + 1 + 1 + 1 + 1, o9) :: (L + 1 + 1 + 1 + 1 + 1 + 1 + 1 + 1, o8) :: (L + 1 + 1 + 1 + 1 + 1 + 1 + 1, o7) :: (L + 1 + 1 + 1 + 1 + 1 + 1, o6) :: (L + 1 + 1 + 1 + 1 + 1, o5) :: (L + 1 + 1 + 1 + 1, o4) :: (L + 1 + 1 + 1, o3) :: (L + 1 + 1, o2) :: (L + 1, o1) :: TT, p.1 ≠ I :=
  List.forall_mem_cons.mpr ⟨x2.symm, List.forall_mem_cons.mpr ⟨x3.symm, List.forall_mem_cons.mpr ⟨x4.symm, List.forall_mem_cons.mpr ⟨x5.symm, List.forall_mem_cons.mpr ⟨x6.symm, List.forall_mem_cons.mpr ⟨x7.symm, List.forall_mem_cons.mpr ⟨x8.symm, List.forall_mem_cons.mpr ⟨x9.symm, List.forall_mem_cons.mpr ⟨x10.symm, cell_off x1 x11⟩⟩⟩⟩⟩⟩⟩⟩⟩

theorem news_sub {h₀ h : Heap} {L : Addr} {l l' : List (Addr × Obj)} (N : News h₀ L h l) (s : ∀ p ∈ l', p ∈ l) : News h₀ L h l' := fun p hp => N p (s p hp)
theorem step_rs {S : St} {p : Int} (hp : p = 0 ∨ p = 1 ∨ p = 2 ∨ p = 3) : (step S p).rs = (p.toNat + 1) :: S.rs.erase (p.toNat + 1) := by rcases hp with rfl | rfl | rfl | rfl <;> rfl
theorem step_metP {S : St} {p : Int} (hp : p = 0 ∨ p = 1 ∨ p = 2 ∨ p = 3) : (step S p).met = S.met ++ [metOf S (up (dsel S.d0 S.d1 S.d2 S.d3 p))] := by rcases hp with rfl | rfl | rfl | rfl <;> rfl
theorem page_nat {p : Int} (hp : p = 0 ∨ p = 1 ∨ p = 2 ∨ p = 3) : p + 1 = ((p.toNat + 1 : Nat) : Int) := by omega
noncomputable def fsel (f0 f1 f2 f3 : Int) : Nat → Int
  | 0 => f0
  | 1 => f1
  | 2 => f2
  | _ => f3
noncomputable def flagG (S : St) (p : Int) (i : Nat) (y : Value) : Prop := ∃ t, y = .int (fsel (step S p).f0 (step S p).f1 (step S p).f2 (step S p).f3 i) t
theorem flag_eq {S : St} {p : Int} {i : Nat} (hp : p = 0 ∨ p = 1 ∨ p = 2 ∨ p = 3) (h : 0 + (i : Int) = p) : 15 - 2 ^ p.toNat = fsel (step S p).f0 (step S p).f1 (step S p).f2 (step S p).f3 i := by
  rcases hp with rfl | rfl | rfl | rfl
  · obtain rfl : i = 0 := by omega
    rfl
  · obtain rfl : i = 1 := by omega
    rfl
  · obtain rfl : i = 2 := by omega
    rfl
  · obtain rfl : i = 3 := by omega
    rfl
theorem flag_ne {S : St} {p : Int} {i : Nat} (hp : p = 0 ∨ p = 1 ∨ p = 2 ∨ p = 3) (hi : i < 4) (h : ¬ 0 + (i : Int) = p) : Builtin.bitAnd (fsel S.f0 S.f1 S.f2 S.f3 i) (15 - 2 ^ p.toNat) = fsel (step S p).f0 (step S p).f1 (step S p).f2 (step S p).f3 i := by
  match i, hi with
  | 0, _ => rcases hp with rfl | rfl | rfl | rfl <;> first | rfl | exact absurd rfl h
  | 1, _ => rcases hp with rfl | rfl | rfl | rfl <;> first | rfl | exact absurd rfl h
  | 2, _ => rcases hp with rfl | rfl | rfl | rfl <;> first | rfl | exact absurd rfl h
  | 3, _ => rcases hp with rfl | rfl | rfl | rfl <;> first | rfl | exact absurd rfl h
theorem flags_four {S : St} {p : Int} {ys : List Value} (hl : ys.length = 4) (hg : ∀ j, (hj : j < ys.length) → flagG S p j ys[j]) : ∃ t0 t1 t2 t3, ys = [.int (step S p).f0 t0, .int (step S p).f1 t1, .int (step S p).f2 t2, .int (step S p).f3 t3] := by
  rcases ys with _ | ⟨a, ys⟩; · exact absurd hl (by simp)
  rcases ys with _ | ⟨b, ys⟩; · exact absurd hl (by simp)
  rcases ys with _ | ⟨c, ys⟩; · exact absurd hl (by simp)
  rcases ys with _ | ⟨d, ys⟩; · exact absurd hl (by simp)
  rcases ys with _ | ⟨e, ys⟩
  · obtain ⟨t0, h0⟩ := hg 0 (by simp)
    obtain ⟨t1, h1⟩ := hg 1 (by simp)
    obtain ⟨t2, h2⟩ := hg 2 (by simp)
    obtain ⟨t3, h3⟩ := hg 3 (by simp)
    exact ⟨t0, t1, t2, t3, by rw [show a = _ from h0, show b = _ from h1, show c = _ from h2, show d = _ from h3]; rfl⟩
  · exact absurd hl (by simp)
section
variable {prog : Program} {w : World} {A : Around} {E : Value → Shared → Prop} {s : Shared} {h₀ : Heap} {L : Addr} {m : Str → Option Value} {news : List (Addr × Obj)} {Q : Value → Shared → Prop}
theorem flag_at {value slice : PySem.Expr} {D : Addr} {n i : Nat} {f0 f1 f2 f3 : Int} {u u0 u1 u2 u3 : Tok} (hi : i < 4) (N : News h₀ L s.heap news) (hm : (D, listOf #[.int f0 u0, .int f1 u1, .int f2 u2, .int f3 u3] n) ∈ news)
    (h : ∀ t, Q (.int (fsel f0 f1 f2 f3 i) t) s)
    (hs : subscripted slice false (.ref D) (.int (0 + (i : Int)) u) = operate [.ref D, .int (0 + (i : Int)) u] (getItem (.ref D) (.int (0 + (i : Int)) u)) := by with_unfolding_all rfl) :
    wpAny (model prog w) A (subscriptTail value slice (.ref D) (.int (0 + (i : Int)) u)) Q E s := by
  have hl : s.heap.IsList D (List.toArray [.int f0 u0, .int f1 u1, .int f2 u2, .int f3 u3]) := News.isList N hm
  match i, hi with
  | 0, _ => exact item_litK (hs := hs) hl (by decide) (by decide) rfl (h _)
  | 1, _ => exact item_litK (hs := hs) hl (by decide) (by decide) rfl (h _)
  | 2, _ => exact item_litK (hs := hs) hl (by decide) (by decide) rfl (h _)
  | 3, _ => exact item_litK (hs := hs) hl (by decide) (by decide) rfl (h _)
theorem pow_p {p : Int} {t u : Tok} (hp : p = 0 ∨ p = 1 ∨ p = 2 ∨ p = 3) (h : Q (.int (2 ^ p.toNat) s.toks) { s with toks := s.toks + 1 }) : wpAny (model prog w) A (binaryOp .Pow (.int 2 t) (.int p u)) Q E s :=
  pow_int_small (by omega) (by omega) (by decide) h
end
end Mine
end
section
open PySem PySem.W PySem.Calls PyProof.Rows PySem.Spec
open LCg (NsObj lst)
set_option pp.deepTerms false
set_option pp.deepTerms.threshold 8
set_option pp.proofs false
namespace Mine
noncomputable def Stop : Prop := True
noncomputable def Late : Prop := True
local macro_rules | `(tactic| walk_at "Late") => `(tactic| (with_reducible rename Late => lt'))
noncomputable def StopC : Prop := True
noncomputable def RowsM : Prop := True
local macro_rules | `(tactic| walk_at "RowsM") => `(tactic| (with_reducible rename RowsM => lt'))
noncomputable def askJ (i : Nat) (ys : List Value) : Prop := ∃ ks : List Int, IntsAre ys ks ∧ ks.length = i ∧ ∀ k ∈ ks, 0 ≤ k ∧ k < 4
noncomputable def isInt (_ : Nat) (v : Value) : Prop := ∃ k t, v = .int k t
theorem ints_at {its : Array Value} {P : Nat → Value → Prop} (h : ∀ i, (hi : i < its.size) → P i its[i]) : ∀ i v, its[i]? = some v → P i v := fun i v e => by
  obtain ⟨hi, rfl⟩ := Array.getElem?_eq_some_iff.mp e
  exact h i hi
theorem askJ_next {i : Nat} {ys : List Value} {x : Int} {t : Tok} (h : askJ i ys) : askJ (i + 1) (ys ++ [.int (x.fmod 4) t]) := by
  obtain ⟨ks, i1, i2, i3⟩ := h
  refine ⟨ks ++ [x.fmod 4], i1.append (.cons _ _ .nil), by simp [i2], fun k hk => ?_⟩
  rcases List.mem_append.mp hk with hk | hk
  · exact i3 k hk
  · rw [List.mem_singleton.mp hk]
    exact ⟨Int.fmod_nonneg_of_pos _ (by decide), Int.fmod_lt_of_pos _ (by decide)⟩
theorem chr_apB {prog : Program} {w : World} {A : Around} {E : Value → Shared → Prop} {s : Shared} {k : Int} {t : Tok} {Q : Value → Shared → Prop} {x : Str}
    (hk : (k = 66 ∧ x = Str.ofString "B") ∨ (k = 67 ∧ x = Str.ofString "C") ∨ (k = 68 ∧ x = Str.ofString "D") ∨ (k = 69 ∧ x = Str.ofString "E")) (h : Q (.str x s.toks) { s with toks := s.toks + 1 }) : wpAny (model prog w) A (call (.builtin "chr") [.int k t]) Q E s := by
  rcases hk with ⟨rfl, rfl⟩ | ⟨rfl, rfl⟩ | ⟨rfl, rfl⟩ | ⟨rfl, rfl⟩ <;> exact P.chr_of_int (by decide) h
noncomputable def wordS : Nat → Str
  | 0 => Str.ofString "B"
  | 1 => Str.ofString "C"
  | 2 => Str.ofString "D"
  | _ => Str.ofString "E"
noncomputable def wordG (i : Nat) (y : Value) : Prop := ∃ t, y = .str (wordS i) t
theorem four_of {i : Nat} (h : i < 4) : i = 0 ∨ i = 1 ∨ i = 2 ∨ i = 3 := by omega
theorem chr_word {prog : Program} {w : World} {A : Around} {E : Value → Shared → Prop} {s : Shared} {k : Int} {t : Tok} {Q : Value → Shared → Prop} {i : Nat} (hi : i < 4)
    (hk : k = ((([i + 1].reverse.map apB).toArray.getD 0 0).toNat : Int)) (h : Q (.str (wordS i) s.toks) { s with toks := s.toks + 1 }) : wpAny (model prog w) A (call (.builtin "chr") [.int k t]) Q E s := by
  subst hk
  rcases four_of hi with rfl | rfl | rfl | rfl
  · exact chr_apB (Or.inl ⟨rfl, rfl⟩) h
  · exact chr_apB (Or.inr (Or.inl ⟨rfl, rfl⟩)) h
  · exact chr_apB (Or.inr (Or.inr (Or.inl ⟨rfl, rfl⟩))) h
  · exact chr_apB (Or.inr (Or.inr (Or.inr ⟨rfl, rfl⟩))) h
theorem join_word {i : Nat} (hi : i < 4) : Txt.join (Str.ofString "") [wordS i] = wordS i := by
  rcases four_of hi with rfl | rfl | rfl | rfl <;> decide
theorem word_fit {i : Nat} (hi : i < 4) : (([wordS i].map (·.length)).sum + [wordS i].length) ≤ 1048576 := by
  rcases four_of hi with rfl | rfl | rfl | rfl <;> decide
theorem one_ok {i : Nat} (hi : i < 4) : ∀ d ∈ [i + 1], 1 ≤ d ∧ d ≤ 4 := fun d hd => by
  rw [List.mem_singleton.mp hd]; omega
theorem ap_one (i : Nat) : (1 : Int) + (i : Int) = apV [i + 1] := by
  show (1 : Int) + (i : Int) = 16 * 0 + ((i + 1 : Nat) : Int)
  omega
theorem words_four {ys : List Value} (hl : ys.length = 4) (hg : ∀ j, (hj : j < ys.length) → wordG j ys[j]) : ∃ t0 t1 t2 t3, ys = [.str (Str.ofString "B") t0, .str (Str.ofString "C") t1, .str (Str.ofString "D") t2, .str (Str.ofString "E") t3] := by
  rcases ys with _ | ⟨a, ys⟩; · exact absurd hl (by simp)
  rcases ys with _ | ⟨b, ys⟩; · exact absurd hl (by simp)
  rcases ys with _ | ⟨c, ys⟩; · exact absurd hl (by simp)
  rcases ys with _ | ⟨d, ys⟩; · exact absurd hl (by simp)
  rcases ys with _ | ⟨e, ys⟩
  · obtain ⟨t0, h0⟩ := hg 0 (by simp)
    obtain ⟨t1, h1⟩ := hg 1 (by simp)
    obtain ⟨t2, h2⟩ := hg 2 (by simp)
    obtain ⟨t3, h3⟩ := hg 3 (by simp)
    exact ⟨t0, t1, t2, t3, by rw [show a = _ from h0, show b = _ from h1, show c = _ from h2, show d = _ from h3]; rfl⟩
  · exact absurd hl (by simp)
noncomputable def wordI (p : Int) : Str := wordS p.toNat
theorem word_at {prog : Program} {w : World} {A : Around} {E : Value → Shared → Prop} {s : Shared} {h₀ : Heap} {L : Addr} {news : List (Addr × Obj)} {Q : Value → Shared → Prop} {value slice : PySem.Expr} {D : Addr} {n : Nat} {p : Int} {u w0 w1 w2 w3 : Tok} (hp : p = 0 ∨ p = 1 ∨ p = 2 ∨ p = 3) (N : News h₀ L s.heap news)
    (hm : (D, listOf #[.str (Str.ofString "B") w0, .str (Str.ofString "C") w1, .str (Str.ofString "D") w2, .str (Str.ofString "E") w3] n) ∈ news) (h : ∀ t, Q (.str (wordI p) t) s)
    (hs : subscripted slice false (.ref D) (.int p u) = operate [.ref D, .int p u] (getItem (.ref D) (.int p u)) := by with_unfolding_all rfl) :
    wpAny (model prog w) A (subscriptTail value slice (.ref D) (.int p u)) Q E s := by
  have hl : s.heap.IsList D (List.toArray [.str (Str.ofString "B") w0, .str (Str.ofString "C") w1, .str (Str.ofString "D") w2, .str (Str.ofString "E") w3]) := News.isList N hm
  rcases hp with rfl | rfl | rfl | rfl
  · exact item_litK (hs := hs) hl (by decide) (by decide) rfl (h _)
  · exact item_litK (hs := hs) hl (by decide) (by decide) rfl (h _)
  · exact item_litK (hs := hs) hl (by decide) (by decide) rfl (h _)
  · exact item_litK (hs := hs) hl (by decide) (by decide) rfl (h _)
theorem add_dot {prog : Program} {w : World} {A : Around} {E : Value → Shared → Prop} {s : Shared} {Q : Value → Shared → Prop} {p : Int} {t u : Tok} (hp : p = 0 ∨ p = 1 ∨ p = 2 ∨ p = 3)
    (h : ∀ t' tk, Q (.str (Str.ofString "." ++ wordI p) t') { s with toks := tk }) : wpAny (model prog w) A (binaryOp .Add (.str (Str.ofString ".") t) (.str (wordI p) u)) Q E s :=
  PyProof.Rows.add_str h (by rw [sizeLine_eq]; rcases hp with rfl | rfl | rfl | rfl <;> decide)
theorem pick_len (l : List Value) (lo hi : Option Int) : (PySem.W.kms_pick l lo hi).length ≤ l.length := by
  unfold PySem.W.kms_pick
  rw [List.length_take, List.length_drop]; omega
theorem room_one {l : List Value} {lo hi : Option Int} {x : Value} (h : l.length ≤ 5) : (PySem.W.kms_pick l lo hi).toArray.toList.length + (#[x] : Array Value).toList.length ≤ sizeLine := by
  have := pick_len l lo hi
  rw [sizeLine_eq]; show (PySem.W.kms_pick l lo hi).length + 1 ≤ _; omega
theorem room_two {l k : List Value} {lo hi lo' hi' : Option Int} {x : Value} (h : l.length ≤ 5) (h' : k.length ≤ 5) : (PySem.W.kms_pick l lo hi ++ [x]).toArray.toList.length + (PySem.W.kms_pick k lo' hi').toArray.toList.length ≤ sizeLine := by
  have := pick_len l lo hi; have := pick_len k lo' hi'
  rw [sizeLine_eq]; show (PySem.W.kms_pick l lo hi ++ [x]).length + (PySem.W.kms_pick k lo' hi').length ≤ _; rw [List.length_append, List.length_singleton]; omega
theorem rows_done {g h : Heap} {L D : Addr} {T : List (Addr × Obj)} {n d0 d1 d2 d3 : Nat} (f0 f1 f2 f3 : Int) (rs : List Nat) (met : List (Int × Int)) {p : Int} (hp : p = 0 ∨ p = 1 ∨ p = 2 ∨ p = 3) {r0 r1 r2 r3 r4 t : Tok}
    (N : News g L h ((D, listOf (PySem.W.kms_pick [.str (rowS 0 (up d0)) r0, .str (rowS 1 (up d1)) r1, .str (rowS 2 (up d2)) r2, .str (rowS 3 (up d3)) r3, .str (Str.ofString "") r4] none (some p) ++ [Value.str (Str.ofString "." ++ wordI p) t] ++
      PySem.W.kms_pick [.str (rowS 0 (up d0)) r0, .str (rowS 1 (up d1)) r1, .str (rowS 2 (up d2)) r2, .str (rowS 3 (up d3)) r3, .str (Str.ofString "") r4] (some (p + 1)) none).toArray n) :: T)) :
    ∃ t0 t1 t2 t3 t4, News g L h ((D, listOf #[.str (rowS 0 (step ⟨d0, d1, d2, d3, f0, f1, f2, f3, rs, met⟩ p).d0) t0, .str (rowS 1 (step ⟨d0, d1, d2, d3, f0, f1, f2, f3, rs, met⟩ p).d1) t1, .str (rowS 2 (step ⟨d0, d1, d2, d3, f0, f1, f2, f3, rs, met⟩ p).d2) t2, .str (rowS 3 (step ⟨d0, d1, d2, d3, f0, f1, f2, f3, rs, met⟩ p).d3) t3, .str (Str.ofString "") t4] n) :: T) := by
  rcases hp with rfl | rfl | rfl | rfl
  · exact ⟨t, r1, r2, r3, r4, N⟩
  · exact ⟨r0, t, r2, r3, r4, N⟩
  · exact ⟨r0, r1, t, r3, r4, N⟩
  · exact ⟨r0, r1, r2, t, r4, N⟩
theorem withOwn {prog : Program} {w : World} {A : Around} {env : Env} {E : Value → Shared → Prop} {Q : Flow → Shared → Prop} {s : Shared} {body : List Stmt} (h : PassesOwn (model prog w) A env E) (k : PassesOwn (model prog w) A env E → wpAny (model prog w) A (execs body env) Q E s) : wpAny (model prog w) A (execs body env) Q E s := k h
theorem ints_size {vs : List Value} {ns : List Int} (hI : IntsAre vs ns) (h : ¬ ((63 : Nat) : Int) < (ns.length : Int)) : vs.toArray.size ≤ sizeLine := by
  have q := hI.length
  rw [sizeLine_eq, List.size_toArray]; omega
theorem own2 {a b : Addr} : ∀ {own : List (Addr × Obj)}, own.map Prod.fst = [a, b] → ∃ oa ob, own = [(a, oa), (b, ob)]
  | [], h => nomatch h
  | [_], h => nomatch (List.cons.inj h).2
  | [(x, oa), (y, ob)], h => by
    have h1 : x = a := (List.cons.inj h).1
    have h2 : y = b := (List.cons.inj (List.cons.inj h).2).1
    subst h1 h2
    exact ⟨oa, ob, rfl⟩
  | _ :: _ :: _ :: _, h => nomatch (List.cons.inj (List.cons.inj h).2).2
local macro_rules | `(tactic| cells_open $x:ident) => `(tactic| (obtain ⟨_, _, _, _, _, _, _, _, _, he, _, _, _, _, _, _, _, _, _⟩ := Mine.nine $x; subst he))
set_option maxRecDepth 100000
local macro_rules | `(tactic| k_all) => `(tactic| first | (refine' List.forall_mem_cons.mpr ⟨?a, ?b⟩; (case a => k_ne); (case b => k_all)) | exact List.forall_mem_nil _ | assumption)
local macro_rules | `(tactic| k_mem) => `(tactic| assumption)
local macro_rules | `(tactic| k_ne) => `(tactic| assumption)
local macro_rules | `(tactic| k_room) => `(tactic| ktr_room)
local macro_rules | `(tactic| walk_at "w15") => `(tactic| (intro v' I' oI' C' oC' D' m' h' tk' E' hv' hC' hx' F' N' off' ne'; obtain ⟨t9', hv9'⟩ := octets_at hv'; subst hv9'; clear hv'; (try simp only [LCg.Off3, and_true] at off')))
set_option maxHeartbeats 16000000 in
theorem main : PySem.Challenge.rw_tx0002_01.Holds := Mine.hd (by
  w_top off
  k_with_none
  k_with "execs cons" => ((with_reducible rename Stop => st'); clear st'; refine Mark.out ?_)
  k_with "exec Assign cons ListComp" => (k_here; k_dflt (refine wpAny_Assign_Name ?_ ?_; rotate_left; with_unfolding_all rfl))
  k_with "call type:enumerate" => (k_here; refine Mark.out ?_)
  k_with "eval Subscript" => (refine Subscript_ ?_)
  k_with "subscriptTail Name Slice ref ref" => (k_here; (with_reducible show wpAny _ _ (subscriptTail _ (PySem.Expr.Slice _ none (some _) _) (Value.ref _) (Value.ref _)) _ _ _); k_dflt (refine' slice_list3 ?Fk9 ?Nk9 ?lk9 ?pk9 ?qk9 ?kk9 ?ok9 ?_ ?sk9 ?tk9 ?zk9; (case Fk9 => k_asm); (case Nk9 => k_asm); (case lk9 => kmk_list); (case pk9 => kmk_part); (case qk9 => kmk_part); (case kk9 => kmk_part); (case ok9 => decide); (case sk9 => with_unfolding_all rfl); (case tk9 => kmk_pure); (case zk9 => assumption)); walk_at "w12")
  k_with "call builtin:sum" => (k_here; k_dflt (refine' sumK ?k0k9 ?k1k9 ?k2k9 ?k3k9 ?k4k9 ?_; (case k0k9 => rfl); (case k1k9 => k_asm); (case k2k9 => k_asm); (case k3k9 => exact News.isList (by k_asm) List.mem_cons_self); (case k4k9 => exact IntsAre.pick (by assumption) _ _ _)); walk_at "w13")
  k_with "exec Assign cons ListComp" => (k_here; (with_reducible show wpAny _ _ (exec (Stmt.Assign _ (Expr.ListComp _ [⟨Expr.Name _ _, _, _, _⟩] _ _) _) _) _ _ _); k_dflt (refine LCg.Assign_ListComp_U (F₀ := by k_asm) (by rfl) (by with_unfolding_all rfl) (by with_unfolding_all rfl) (by decide) (by rfl) (by decide) (by rfl) (by rfl) (by rfl) ?_))
  k_with "eval ListComp" => (k_here; (with_reducible show wpAny _ _ (eval (Expr.ListComp _ [⟨Expr.Name _ _, Expr.Call (Expr.Name (Str.ofString "Int2AP") _) _ _ _, _, _⟩] _ _) _) _ _ _); k_dflt (refine ListComp_B (by k_asm) (by with_unfolding_all rfl) (by decide) (by rfl) (by decide) (by rfl) ?_))
  k_with "SrcB" => (k_here; k_dflt (refine SrcB.intro 1 (by rfl) (by k_asm) (by k_asm) (by rfl) (by decide) ?_); walk_at "w14")
  k_with "CompRest" => (with_unfolding_all (refine LCg.CompRest.succ ?_; walk_at "w15"))
  k_with "call ref" => (k_here; (show wpAny _ _ (call (Value.ref 53) _) _ _ _); k_dflt (refine' ap_c _ _ _ _ _ _ _ _ _ _ _ _ _ _ _ _ _ _ ?k1k9 ?k2k9 ?k3k9 ?k4k9 ?k5k9 ?k6k9 ?k7k9 ?k8k9 _ ?ddk9 (Nat.le_of_ble_eq_true rfl) _ (ap_one _) _ ?_; (case k1k9 => k_asm); (case k2k9 => k_asm); (case k3k9 => k_asm); (case k4k9 => k_asm); (case k5k9 => k_asm); (case k6k9 => first | exact rfl | assumption); (case k7k9 => ktr_room); (case k8k9 => ktr_units); (case ddk9 => exact one_ok (by with_reducible assumption))); walk_at "w7")
  k_with "call builtin:chr" => (k_here; k_dflt (refine' chr_word (by with_reducible assumption) (by rfl) ?_))
  k_with "CompEnd" => (refine LCg.CompEnd.intro (by k_asm) (by k_asm) _ (fun p hp => hp) ?ok9 (by first | trivial | lcg_src) ?_; (case ok9 => (simp only [LCg.Off3, and_true]; assumption)))
  k_with "exec For Name Name cons nil" => (k_here; with_unfolding_all refine for_go ?_ (by intro _; rfl))
  k_with "pyIter ref" => (k_here; k_dflt (refine' for_list ?Fk9 ?Nk9 ?lk9 ?_; (case Fk9 => k_asm); (case Nk9 => k_asm); (case lk9 => first | assumption | k_mem)); walk_at "w3")
  k_with "ForIt" => (refine Mark.out ?_)
  k_with "ForPost" => (unfold ForPost; dsimp only)
  k_with "ForRest" => (refine Mark.out ?_)
  k_with "call builtin:str.join" => (k_here; k_dflt (refine' join_led ?Nk9 ?mk9 ?zk9 ?bk9 ?wk9 ?_; (case Nk9 => k_asm); (case mk9 => k_mem); (case zk9 => exact .cons _ _ (.cons _ _ (.cons _ _ (.cons _ _ (.cons _ _ .nil))))); (case bk9 => first | assumption | decide); (case wk9 => k_asm)); walk_at "w5")
  k_with "call ref" => (k_here; (show wpAny _ _ (call (Value.ref 70) _) _ _ _); k_dflt (refine' quote4 _ _ _ _ _ _ _ _ _ _ _ _ _ _ _ _ _ _ ?k1k9 ?k2k9 ?k3k9 ?k4k9 ?k5k9 ?k6k9 ?k7k9 ?k8k9 _ _ _ ?ddk9 ?llk9 ?_; (case k1k9 => k_asm); (case k2k9 => k_asm); (case k3k9 => k_asm); (case k4k9 => k_asm); (case k5k9 => k_asm); (case k6k9 => first | exact rfl | assumption); (case k7k9 => ktr_room); (case k8k9 => ktr_units); (case ddk9 => k_asm); (case llk9 => k_asm)); walk_at "w7")
  k_with "call ref" => (k_here; (show wpAny _ _ (call (Value.ref 75) _) _ _ _); k_dflt (refine' told4 _ _ _ _ _ _ _ _ _ _ _ _ _ _ _ _ _ ?k1k9 ?k2k9 ?k3k9 ?k4k9 ?k5k9 ?xbk9 ?tbk9 ?k6k9 ?k7k9 ?k8k9 _ _ _ _ ?ddk9 _ ?_; (case k1k9 => k_asm); (case k2k9 => k_asm); (case k3k9 => k_asm); (case k4k9 => k_asm); (case k5k9 => k_asm); (case xbk9 => k_asm); (case tbk9 => k_asm); (case k6k9 => first | exact rfl | assumption); (case k7k9 => ktr_room); (case k8k9 => ktr_units); (case ddk9 => k_asm)); walk_at "w16")
  k_with "call ref" => (k_here; (show wpAny _ _ (call (Value.ref 89) _) _ _ _); k_dflt (refine' last_c _ _ _ _ _ _ _ _ _ _ _ _ _ _ _ _ _ _ ?k1k9 ?k2k9 ?k3k9 ?k4k9 ?k5k9 ?k6k9 ?k7k9 ?k8k9 _ ?r1k9 ?r2k9 ?r3k9 _ ?r4k9 _ _ _ ?r5k9 _ ?_; (case r5k9 => exact page_nat (by with_reducible assumption)); (case k1k9 => k_asm); (case k2k9 => k_asm); (case k3k9 => k_asm); (case k4k9 => k_asm); (case k5k9 => k_asm); (case k6k9 => first | exact rfl | assumption); (case k7k9 => ktr_room); (case k8k9 => ktr_units); (case r4k9 => exact rfl); (case r1k9 => k_asm); (case r2k9 => k_asm); (case r3k9 => k_asm)); walk_at "w7")
  k_with "call builtin:str.split" => (k_here; k_dflt (refine' split5 ?Fk9 ?Nk9 ?zk9 ?_; (case Fk9 => k_asm); (case Nk9 => k_asm); (case zk9 => k_asm)); walk_at "w17")
  k_with "eval ListComp" => (k_here; (with_reducible show wpAny _ _ (eval (Expr.ListComp _ [⟨Expr.Tuple _ _ _, _, _, _⟩] _ _) _) _ _ _); refine Mark.out ?_)
  k_with "eval ListComp" => (k_here; (with_reducible show wpAny _ _ (eval (Expr.ListComp _ [⟨Expr.Name _ _, Expr.Call (Expr.Name (Str.ofString "range") _) _ _ _, [], _⟩] _ _) _) _ _ _); k_dflt (refine LCg.ListComp_U (F₀ := by k_asm) (by with_unfolding_all rfl) (by decide) (by rfl) (by decide) (by rfl) ?_))
  k_with "call builtin:len" => (k_here; k_dflt (refine' len_led ?Nk9 ?mk9 ?zk9 ?_; (case Nk9 => k_asm); (case mk9 => k_mem); (case zk9 => k_asm)))
  k_with "binaryOp BitAnd int int" => (k_here; refine and_int ?_)
  k_with "CompSrc" => (k_here; k_dflt (refine LCg.CompSrc.range (by rfl) (by k_asm) (by k_asm) (by assumption) (by first | decide | rfl) (by first | rfl | decide) (by first | size_fits | exact Nat.le_of_ble_eq_true rfl) ?_; walk_at "w18"))
  k_with "subscriptTail" => (k_here; (with_reducible show wpAny _ _ (subscriptTail _ _ (Value.ref _) (Value.int (Int.fmod _ 3) _)) _ _ _); k_dflt (refine' sub_sep (P := SepP _ _ _ _) ?Nk9 ?mk9 ?pak9 ?pbk9 ?pck9 ?_; (case Nk9 => k_asm); (case mk9 => k_mem); (case pak9 => with_reducible assumption); (case pbk9 => with_reducible assumption); (case pck9 => with_reducible assumption)); walk_at "w19")
  k_with "subscriptTail Name Name ref int" => (k_here; k_dflt (refine' told_at ?hdk9 ?hpk9 ?Nk9 ?mk9 ?m0k9 ?m1k9 ?m2k9 ?m3k9 ?_; (case hdk9 => with_reducible assumption); (case hpk9 => with_reducible assumption); (case Nk9 => k_asm); (case mk9 => k_mem); (case m0k9 => k_mem); (case m1k9 => k_mem); (case m2k9 => k_mem); (case m3k9 => k_mem)); walk_at "w20")
  k_with "subscriptTail Name Name ref int" => (k_here; (with_reducible show wpAny _ _ (subscriptTail _ _ (Value.ref _) (Value.int (0 + _) _)) _ _ _); k_dflt (refine' flag_at ?hik9 ?Nk9 ?mk9 ?_; (case hik9 => with_reducible assumption); (case Nk9 => k_asm); (case mk9 => k_mem)); walk_at "w4")
  k_with "binaryOp Pow int int" => (k_here; refine pow_p (by with_reducible assumption) ?_)
  k_with "CompSrc" => ((with_reducible rename StopC => st'); clear st'; refine Mark.out ?_)
  k_with "subscriptTail Name Name ref int" => (k_here; k_dflt (refine' word_at ?hpk9 ?Nk9 ?mk9 ?_; (case hpk9 => with_reducible assumption); (case Nk9 => k_asm); (case mk9 => k_mem)); walk_at "w4")
  k_with "subscriptTail Name Slice ref ref" => (walk_at "RowsM"; k_here; (with_reducible show wpAny _ _ (subscriptTail _ (PySem.Expr.Slice _ _ none _) (Value.ref _) (Value.ref _)) _ _ _); k_dflt (refine' kms_slice_lit ?Fk9 ?Nk9 ?lk9 ?pk9 ?qk9 ?ek9 ?_ ?sk9 ?tk9 ?zk9; (case Fk9 => k_asm); (case Nk9 => k_asm); (case lk9 => kmk_list); (case pk9 => kmk_part); (case qk9 => kmk_part); (case ek9 => exact rfl); (case sk9 => with_unfolding_all rfl); (case tk9 => kmk_pure); (case zk9 => kmk_size)); walk_at "w21")
  k_with "binaryOp Add str str" => (k_here; k_dflt (refine' add_dot ?hpk9 ?_; (case hpk9 => with_reducible assumption)); walk_at "w22")
  k_with "binaryOp Add ref ref" => (walk_at "RowsM"; k_here; k_dflt (refine' kmk_add_lit ?Fk9 ?Nk9 ?ak9 ?bk9 ?ek9 ?_ ?zk9; (case Fk9 => k_asm); (case Nk9 => k_asm); (case ak9 => kmk_list); (case bk9 => kmk_list); (case ek9 => exact rfl); (case zk9 => first | exact room_one (Nat.le_of_ble_eq_true rfl) | exact room_two (Nat.le_of_ble_eq_true rfl) (Nat.le_of_ble_eq_true rfl))); walk_at "w21")
  k_with "call ref" => (walk_at "Late"; k_here; (show wpAny _ _ (call (Value.ref 82) _) _ _ _); k_dflt (refine' cache_c _ _ _ _ _ _ _ _ _ _ _ _ _ _ _ _ _ _ ?k1k9 ?k2k9 ?k3k9 ?k4k9 ?k5k9 ?k6k9 ?k7k9 ?k8k9 _ _ _ _ _ _ ?lak9 ?lvk9 ?llk9 ?s1k9 ?s2k9 ?_; (case k1k9 => k_asm); (case k2k9 => k_asm); (case k3k9 => k_asm); (case k4k9 => k_asm); (case k5k9 => k_asm); (case k6k9 => first | exact rfl | assumption); (case k7k9 => ktr_room); (case k8k9 => ktr_units); (case lak9 => k_mem); (case lvk9 => k_asm); (case llk9 => omega); (case s1k9 => omega); (case s2k9 => omega)); walk_at "w23")
  k_with "call builtin:sorted" => (walk_at "Late"; k_here; refine Mark.out ?_)
  k_with "CompEnd" => (walk_at "Late"; refine comp_keep (by k_asm) (by k_asm) ?ok9 ?sk9 ?_; (case ok9 => (simp only [LCg.Off3, and_true]; refine ⟨⟨by k_ne, by k_ne, by k_ne⟩, ?_⟩; assumption)); (case sk9 => trivial))
  k_with "compareOp NotEq ref ref" => (walk_at "Late"; k_here; k_dflt (refine' ne_ints ?Nk9 ?ak9 ?bk9 ?ek9 ?gk9 ?uk9 ?_; (case Nk9 => k_asm); (case ak9 => k_mem); (case bk9 => k_mem); (case ek9 => k_asm); (case gk9 => k_asm); (case uk9 => units_room)))
  k_with "call ref" => (walk_at "Late"; k_here; (with_reducible show wpAny _ _ (call (Value.ref 53) [Value.int (apV _) _]) _ _ _); k_dflt (refine' ap_c _ _ _ _ _ _ _ _ _ _ _ _ _ _ _ _ _ _ ?k1k9 ?k2k9 ?k3k9 ?k4k9 ?k5k9 ?k6k9 ?k7k9 ?k8k9 _ ?ddk9 ?llk9 _ ?nnk9 _ ?_; (case nnk9 => exact rfl); (case k1k9 => k_asm); (case k2k9 => k_asm); (case k3k9 => k_asm); (case k4k9 => k_asm); (case k5k9 => k_asm); (case k6k9 => first | exact rfl | assumption); (case k7k9 => ktr_room); (case k8k9 => ktr_units); (case ddk9 => k_asm); (case llk9 => k_asm)); walk_at "w7")
  k_with "call type:list" => (walk_at "Late"; k_here; (with_reducible show wpAny _ _ (call (Value.type _) [Value.bytes _ _]) _ _ _); k_dflt (refine' list_bytes_led ?hk9 ?Fk9 ?Nk9 ?kk9 ?zk9 ?_; (case hk9 => rfl); (case Fk9 => k_asm); (case Nk9 => k_asm); (case kk9 => k_asm); (case zk9 => k_asm)); walk_at "w8")
  k_with "eval ListComp" => (walk_at "Late"; k_here; (with_reducible show wpAny _ _ (eval (Expr.ListComp _ [⟨Expr.Name _ _, Expr.Name _ _, [], _⟩] _ _) _) _ _ _); refine Mark.out ?_)
  k_with "CompSrc" => (walk_at "Late"; k_here; (with_reducible show LCg.CompSrc _ _ _ _ _ _ _ _ _ _ _ _ (Value.ref _) _); first | (k_dflt (refine LCg.CompSrc.range (by rfl) (by k_asm) (by k_asm) (by assumption) (by first | decide | rfl) (by first | rfl | decide) (by first | size_fits | exact Nat.le_of_ble_eq_true rfl) ?_; walk_at "w18")) | refine Mark.out ?_)
  k_with "exec For Name Call cons nil" => (walk_at "Late"; k_here; with_unfolding_all refine for_go ?_ (by intro _; rfl))
  k_with "pyIter ref" => (walk_at "Late"; k_here; k_dflt (refine' for_range ?Fk9 ?Nk9 ?rk9 ?sk9 ?_; (case Fk9 => k_asm); (case Nk9 => k_asm); (case rk9 => k_asm); (case sk9 => decide)); walk_at "w6")
  k_with "compareOp NotEq ref ref" => (walk_at "Late"; k_here; k_dflt (refine' ne_bools ?Nk9 ?ak9 ?bk9 ?ek9 ?gk9 ?uk9 ?_; (case Nk9 => k_asm); (case ak9 => k_mem); (case bk9 => k_mem); (case ek9 => k_asm); (case gk9 => k_asm); (case uk9 => units_room)))
  k_with "eval ListComp" => (walk_at "Late"; k_here; (with_reducible show wpAny _ _ (eval (Expr.ListComp (Expr.Compare _ _ _ _) [⟨Expr.Name _ _, _, [], _⟩] _ _) _) _ _ _); refine Mark.out ?_)
  k_with "CompSrc" => (walk_at "Late"; (with_reducible rename Stop => st'); clear st'; refine Mark.out ?_)
  k_with "call ref" => (walk_at "Late"; k_here; (show wpAny _ _ (call (Value.ref 39) _) _ _ _); k_dflt (refine' flags_c _ _ _ _ _ _ _ _ _ _ _ _ _ _ _ _ _ _ ?k1k9 ?k2k9 ?k3k9 ?k4k9 ?k5k9 ?k6k9 ?k7k9 ?k8k9 _ ?ddk9 ?llk9 _ ?_; (case k1k9 => k_asm); (case k2k9 => k_asm); (case k3k9 => k_asm); (case k4k9 => k_asm); (case k5k9 => k_asm); (case k6k9 => first | exact rfl | assumption); (case k7k9 => ktr_room); (case k8k9 => ktr_units); (case ddk9 => k_asm); (case llk9 => k_asm)); walk_at "w7")
  k_with "call ref" => (walk_at "Late"; k_here; (show wpAny _ _ (call (Value.ref 94) _) _ _ _); k_dflt (refine' names_c _ _ _ _ _ _ _ _ _ _ _ _ _ _ _ _ _ _ ?k1k9 ?k2k9 ?k3k9 ?k4k9 ?k5k9 ?k6k9 ?k7k9 ?k8k9 _ _ _ _ ?lak9 ?lvk9 ?_; (case k1k9 => k_asm); (case k2k9 => k_asm); (case k3k9 => k_asm); (case k4k9 => k_asm); (case k5k9 => k_asm); (case k6k9 => first | exact rfl | assumption); (case k7k9 => ktr_room); (case k8k9 => ktr_units); (case lak9 => k_mem); (case lvk9 => first | assumption | exact .nil)); walk_at "w7")
  k_with "call builtin:list.index" => (walk_at "Late"; k_here; k_dflt (refine' index_led ?Nk9 ?mk9 ?ik9 ?hk9 ?zk9 ?_; (case Nk9 => k_asm); (case mk9 => k_mem); (case ik9 => k_asm); (case hk9 => k_asm); (case zk9 => omega)))
  k_with "compareOp NotEq str str" => (walk_at "Late"; k_here; k_dflt (refine' ne_same ?ek9 ?_; (case ek9 => k_asm)))
  k_with "eval ListComp" => (walk_at "Late"; k_here; (with_reducible show wpAny _ _ (eval (Expr.ListComp _ [⟨Expr.Name _ _, _, [_], _⟩] _ _) _) _ _ _); refine Mark.out ?_)
  k_with "CompSrcT" => (walk_at "Late"; (with_reducible rename Stop => st'); clear st'; refine Mark.out ?_)
  k_with "compareOp In int ref" => (walk_at "Late"; k_here; k_dflt (refine' in_x ?Nk9 ?mk9 ?ik9 ?bk9 ?_; (case Nk9 => k_asm); (case mk9 => k_mem); (case ik9 => k_asm); (case bk9 => k_asm)))
  k_with "compareOp NotIn int ref" => (walk_at "Late"; k_here; k_dflt (refine' notin_x ?Nk9 ?mk9 ?ik9 ?bk9 ?_; (case Nk9 => k_asm); (case mk9 => k_mem); (case ik9 => k_asm); (case bk9 => k_asm)))
  k_with "binaryOp Add ref ref" => (walk_at "Late"; k_here; k_dflt (refine' add_led ?Fk9 ?Nk9 ?ak9 ?bk9 ?ik9 ?jk9 ?zk9 ?_; (case Fk9 => k_asm); (case Nk9 => k_asm); (case ak9 => k_mem); (case bk9 => k_mem); (case ik9 => k_asm); (case jk9 => k_asm); (case zk9 => (rw [List.length_take]; omega))); walk_at "w24")
  k_with "newList" => (walk_at "Late"; k_here; k_dflt (refine' newList_K ?k1k9 ?k2k9 ?_ ?zk9; (case zk9 => exact Nat.le_of_ble_eq_true rfl); (case k1k9 => k_asm); (case k2k9 => k_asm); k_whole); walk_at "w25")
  have st0 : Stop := trivial
  k_go0
  (all_goals try k_fold)
  k_steps
  unfold Mark
  rename_i wW s0 s1 mg mb G Y fa oo pm doc ho hg KX Xm V GL T1 B TE TW bw18 bw17 BM cw16 cw15 hcd ns hs hlay0 hLa hr1 hl2 l13 l12 sc vs l9 hL ra w1 r0 hI hr h63 hct K0 hD h1 tk1 F0 o9 o8 o7 o6 o5 o4 o3 o2 o1 d9 d8 d7 d6 d5 d4 d3 d2 d1 N0 X0
  replace d9 : o9.data = .cell none := d9
  replace d8 : o8.data = .cell none := d8
  replace d7 : o7.data = .cell none := d7
  replace d6 : o6.data = .cell none := d6
  replace d5 : o5.data = .cell none := d5
  replace d4 : o4.data = .cell none := d4
  replace d3 : o3.data = .cell none := d3
  replace d2 : o2.data = .cell none := d2
  replace d1 : o1.data = .cell (some (.ref sc)) := d1
  replace F0 : Fr _ _ _ (fun _ => none) := F0
  have hz := ints_size hI h63
  replace K0 : Below callerA s1.heap [] s1.heap := K0
  refine withOwn (by passes_own) fun hPO => ?_
  have hq : ∀ (h : Heap) (tk : Nat) (m : Str → Option Value), Fr s1.heap s1.heap.objs.size h m → qk (.ret (.bool true)) { s1 with heap := h, toks := tk } := by
    intro h tk m Fq
    clear F0
    show GoodW _ _ _ _ _ (.ok (.ret (.bool _))) _
    refine goodW_bool (by assumption) (by assumption) (raisesW_false ?_) ?_
    · wrow_none_raised
    · wrow_post
  clear_value qk ek
  clear X0 hD hct hr r0 w1 ra l9 l12 l13 hl2 hr1 hLa hlay0 hs BM TW TE B GL V Xm Y G hg
  refine jump (l1 := [_, _, _, _, _, _]) (fun s' => Opq (∃ A ys as nA v4, IntsAre ys as ∧ as.length = 7 ∧ (∀ k ∈ as, 0 ≤ k ∧ k < 4) ∧ Sta s1.heap s1.heap.objs.size sc A ys nA St0 [] v4 s1 s')) ?_ ?_
  · k_steps
    unfold Mark
    refine ListComp_PE (x := Str.ofString "k") (x₂ := Str.ofString "start") F0 N0 (by with_unfolding_all rfl) (by decide) (by rfl) (by decide) (by rfl) (by rfl) (by decide) (by rfl) 7 isInt askJ ?hsz ?hJ ?h ?T ?_
    case hsz => decide
    case hJ => exact ⟨[], .nil, rfl, nofun⟩
    case h =>
      k_steps
      unfold Mark
      rename Fr _ _ _ _ => F1
      rename News _ _ _ _ => N1
      refine enum_src ⟨_, _, rfl⟩ F1 N1 rfl (ints_at fun i hi => ?_)
      match i, hi with
      | 0, _ => exact ⟨_, _, rfl⟩
      | 1, _ => exact ⟨_, _, rfl⟩
      | 2, _ => exact ⟨_, _, rfl⟩
      | 3, _ => exact ⟨_, _, rfl⟩
      | 4, _ => exact ⟨_, _, rfl⟩
      | 5, _ => exact ⟨_, _, rfl⟩
      | 6, _ => exact ⟨_, _, rfl⟩
      | n + 7, h => exact absurd h (by simp)
    case T =>
      rintro nw s' wr ⟨h, tk, rfl⟩ ⟨a, b, rfl⟩ hsub
      unfold Turn
      intro i v₁ v₂ own C oC D ys m₂ h tk E' hi hPt hJ hown hNs hm1 hm2 F N hoff hCD hoffo
      obtain ⟨t, v, ⟨k, t', rfl⟩, e⟩ := hPt
      obtain ⟨rfl, rfl⟩ : v₁ = .int i t ∧ v₂ = .int k t' := by simpa using e
      clear e F0 N0
      have hc1 : (_, o1) ∈ nw := hsub _ (by repeat (first | exact List.mem_cons_self | apply List.mem_cons_of_mem))
      clear hsub
      obtain ⟨oa, ob, rfl⟩ := own2 hown
      simp only [List.cons_append, List.nil_append] at N
      unfold tests
      refine wpAny_tests_nil ?_
      simp only [if_true]
      intro E2
      k_steps
      rename Fr _ _ _ _ => Fz
      rename News _ _ _ _ => Nz
      refine ⟨_, _, rfl, Fz, news_tl Nz, ?_⟩
      exact askJ_next hJ
    intro A h tk ys F N l1 lL hJ
    obtain ⟨as, iA, lA, bA⟩ := hJ
    k_lt l1
    clear F0 N0
    have stC : StopC := trivial
    k_steps
    unfold Mark
    rename Fr _ _ _ _ => Fh
    rename News _ _ _ _ => Nh
    refine LCg.CompSrc.range (n := 4) (by rfl) Fh Nh (by assumption) (by decide) (by rfl) (by rw [sizeLine_eq]; omega) fun g => ?_
    refine rest_mapB (G := wordG) trivial 4 ?wturn ?wfin 4 0 [] rfl rfl (fun j hj => absurd hj (Nat.not_lt_zero _))
    case wturn =>
      intro i9 v I9 oI9 C9 oC9 D9 m₂ h tk ys9 E' hi7 hP9 hNs hm1 F N
      obtain ⟨t9, rfl⟩ := hP9
      clear Fh Nh
      k_steps
      rename Fr _ _ _ _ => F8
      rename News _ _ _ _ => N8
      refine join_led N8 (by k_mem) (.cons _ _ .nil) (by decide) (word_fit hi7) fun t8 k8 => ?_
      k_steps
      unfold Opq
      exact ⟨⟨_, congrArg (Value.str · _) (join_word hi7)⟩, _, _, rfl, F8, fun p hp => N8 p (by (repeat (first | exact hp | apply List.mem_cons_of_mem)))⟩
    intro ys9 hl9 hg9
    obtain ⟨z0, z1, z2, z3, rfl⟩ := words_four hl9 hg9
    clear Fh Nh hg9 hl9
    k_steps
    unfold Opq
    rename Fr _ _ _ _ => Fz
    rename News _ _ _ _ => Nz
    refine ⟨A, ys, as, ys.length, none, iA, lA, bA, ?sta⟩
    refine' Sta.intro (st := St0) (mv := []) (TT := []) (X := []) Fz ?eW ?eR ?eM ?eN d1 ?dA ?dF d4 d5 d6 d7 d8 d9 Nz ?sub trivial (Nat.zero_le _) ?ord (fun p hp => absurd hp List.not_mem_nil) List.nodup_nil (fun p hp => absurd hp List.not_mem_nil) (Nat.zero_le _) (fun p hp => absurd hp List.not_mem_nil)
    case eW => rfl
    case eR => rfl
    case eM => rfl
    case eN => rfl
    case dA => assumption
    case dF => assumption
    case ord => exact ⟨by omega, ⟨show @Ne Nat _ _ by omega, show @Ne Nat _ _ by omega, show @Ne Nat _ _ by omega, show @Ne Nat _ _ by omega, show @Ne Nat _ _ by omega, show @Ne Nat _ _ by omega, show @Ne Nat _ _ by omega⟩, by omega, by omega, by omega, ⟨show @Ne Nat _ _ by omega, show @Ne Nat _ _ by omega, show @Ne Nat _ _ by omega, show @Ne Nat _ _ by omega, show @Ne Nat _ _ by omega, show @Ne Nat _ _ by omega, show @Ne Nat _ _ by omega⟩, by omega, by omega, by omega⟩
    case sub => lcg_sub
  clear F0 N0 d1 d2 d3 d4 d5 d6 d7 d8 d9
  rintro s2 hs2
  unfold Opq at hs2
  obtain ⟨A, ys, as, nA, v4, iA, lA, bA, hS⟩ := hs2
  refine jump (l1 := [_]) (fun s' => Opq (∃ v4, Sta s1.heap s1.heap.objs.size sc A ys nA (run as) [] v4 s1 s')) ?_ ?_
  · skip
    refine Sta.elim0 hS ?_
    clear hS
    intro h tk m W R Fl M w0 w1 w2 w3 r0 r1 r2 r3 r4 u0 u1 u2 u3 tn mv nW nR nF nM TT o1 o2 o3 o4 o5 o6 o7 o8 o9 v5 v6 v7 v8 v9 F N eW eR eM eN d1 d2 d3 d4 d5 d6 d7 d8 d9 hP hmv ord hTT n1 n2 n3 y1 y21 y22 y23 y24 y25 y26 y27 y3 y4 y5 y61 y62 y63 y64 y65 y66 y67 y7 y8 y9
    have hTl : ∀ p ∈ TT, @LT.lt Nat instLTNat p.1 h.objs.size := fun p hp => Heap.lt_size (N p (by repeat (first | exact hp | apply List.mem_cons_of_mem))).1
    k_steps
    unfold Mark ForIt
    rename Fr _ _ _ _ => Fy
    rename News _ _ _ _ => Ny
    rename IterAt _ _ _ => hI0
    rename_i I oI hI1 lI
    refine use_for (fun σ => ∃ (k i : Nat) (oI : Obj) (S : St) (v4 : Option Value), i + k = 7 ∧ S = run (as.take i) ∧ IterAt oI A i ∧ Sta s1.heap s1.heap.objs.size sc A ys nA S [(I, oI)] v4 s1 σ) ?_ ?_
    · refine ⟨7, 0, oI, St0, v4, rfl, rfl, hI0, ?_⟩
      refine Sta.intro (led := _) Fy eW eR eM eN d1 d2 d3 d4 d5 d6 d7 d8 d9 Ny (fun p hp => hp) hP hmv ord hTT n1 n2 n3 (fun q hq => ?_)
      rw [List.mem_singleton.mp hq]
      refine ⟨by dsimp only; omega, by dsimp only; omega, by dsimp only; omega, by dsimp only; omega, by dsimp only; omega, by dsimp only; omega, fun p hp => ?_⟩
      exact Nat.ne_of_lt (allLt_mem lI.2.2.2.2.2.2.2.2.2.2.2.2.2.2 p hp)
    · skip
      clear y1 y21 y22 y23 y24 y25 y26 y27 y3 y4 y5 y61 y62 y63 y64 y65 y66 y67 y7 y8 y9
      clear Fy Ny hI0 oI hI1 lI hP hmv ord hTT hTl n1 n2 n3 F N eW eR eM eN d1 d2 d3 d4 d5 d6 d7 d8 d9
      clear v4 v5 v6 v7 v8 v9 o1 o2 o3 o4 o5 o6 o7 o8 o9 TT nW nR nF nM mv W R Fl M w0 w1 w2 w3 r0 r1 r2 r3 r4 u0 u1 u2 u3 tn m h tk
      rintro σ ⟨k, hJ⟩
      induction k generalizing σ with
      | zero =>
        obtain ⟨i, oI, S, v4, hik, hS, hI, hJ⟩ := hJ
        obtain ⟨d0, d1', d2', d3', f0, f1, f2, f3, rs, met⟩ := S
        refine Sta.elim1 hJ ?_
        clear hJ
        intro h tk m W R Fl M w0 w1 w2 w3 r0 r1 r2 r3 r4 u0 u1 u2 u3 tn mv nW nR nF nM TT o1 o2 o3 o4 o5 o6 o7 o8 o9 v5 v6 v7 v8 v9 F N eW eR eM eN d1 d2 d3 d4 d5 d6 d7 d8 d9 hP hmv ord hTT n1 n2 n3 x1 x2 x3 x4 x5 x6 x7 y1 y21 y22 y23 y24 y25 y26 y27 y3 y4 y5 y61 y62 y63 y64 y65 y66 y67 y7 y8 y9
        have hord := ord
        have hi7 : i = 7 := by omega
        subst hi7
        rw [← lA, List.take_length] at hS
        refine for_end (l := A) (n := nA) (its := ys.toArray) hPO rfl F N hI ?off (by k_mem) (by have := iA.length; simp; omega) fun h' F' N' => ?_
        case off => exact sta_off x1 x2 x3 x4 x5 x6 x7
        clear F N hI
        k_steps
        unfold Opq
        rw [← hS]
        refine ⟨v4, ?_⟩
        refine Sta.intro (led := _) (X := []) F' eW eR eM eN d1 d2 d3 d4 d5 d6 d7 d8 d9 N' (fun p hp => hp) hP hmv hord hTT n1 n2 n3 (fun q hq => absurd hq List.not_mem_nil)
      | succ k ih =>
        obtain ⟨i, oI, S, v4, hik, hS, hI, hJ⟩ := hJ
        obtain ⟨d0, d1', d2', d3', f0, f1, f2, f3, rs, met⟩ := S
        refine Sta.elim1 hJ ?_
        clear hJ
        intro h tk m W R Fl M w0 w1 w2 w3 r0 r1 r2 r3 r4 u0 u1 u2 u3 tn mv nW nR nF nM TT o1 o2 o3 o4 o5 o6 o7 o8 o9 v5 v6 v7 v8 v9 F N eW eR eM eN d1 d2 d3 d4 d5 d6 d7 d8 d9 hP hmv ord hTT n1 n2 n3 x1 x2 x3 x4 x5 x6 x7 y1 y21 y22 y23 y24 y25 y26 y27 y3 y4 y5 y61 y62 y63 y64 y65 y66 y67 y7 y8 y9
        replace F := fr_four F eW eR eM eN
        have hT3 : ∀ p ∈ TT, p.1 ≠ s1.heap.objs.size + 1 + 1 + 1 := fun p hp => by have := (hTT p hp).1; exact lne' (by omega)
        have hT4 : ∀ p ∈ TT, p.1 ≠ s1.heap.objs.size + 1 + 1 + 1 + 1 := fun p hp => by have := (hTT p hp).1; exact lne' (by omega)
        have hT5 : ∀ p ∈ TT, p.1 ≠ s1.heap.objs.size + 1 + 1 + 1 + 1 + 1 := fun p hp => by have := (hTT p hp).1; exact lne' (by omega)
        have hT6 : ∀ p ∈ TT, p.1 ≠ s1.heap.objs.size + 1 + 1 + 1 + 1 + 1 + 1 := fun p hp => by have := (hTT p hp).1; exact lne' (by omega)
        have hTM : ∀ p ∈ TT, p.1 ≠ M := fun p hp => (hTT p hp).2
        have hlt : i < as.length := by omega
        obtain ⟨tp, hx⟩ := iA.get i as[i] (by simp [hlt])
        have hb := bA as[i] (List.getElem_mem hlt)
        have hD := run_le (as.take i)
        rw [List.length_take, Nat.min_eq_left (Nat.le_of_lt hlt), ← hS] at hD
        dsimp only [Dle] at hD
        have hml : met.length ≤ 7 := by have q := run_met (as.take i); rw [← hS, List.length_take] at q; dsimp only at q; omega
        have hstep := run_succ as i hlt
        rw [← hS] at hstep
        refine for_item (l := A) (n := nA) (its := ys.toArray) (v := .int as[i] tp) hPO F N hI ?off (by k_mem) (by simpa using hx) fun h' oI' hI' F' N' => ?_
        case off => exact sta_off x1 x2 x3 x4 x5 x6 x7
        clear F N hI
        generalize as[i] = p at hstep hx hb
        have hdd : up d0 ≤ 100 ∧ up d1' ≤ 100 ∧ up d2' ≤ 100 ∧ up d3' ≤ 100 := ⟨Nat.le_trans (up_le hD.1) (by omega), Nat.le_trans (up_le hD.2.1) (by omega), Nat.le_trans (up_le hD.2.2.1) (by omega), Nat.le_trans (up_le hD.2.2.2) (by omega)⟩
        have hw : ((rows5 d0 d1' d2' d3').map (·.length)).sum + (rows5 d0 d1' d2' d3').length ≤ 1048576 := rows_fit (by have := hD.1; omega) (by have := hD.2.1; omega) (by have := hD.2.2.1; omega) (by have := hD.2.2.2; omega)
        have sp1 : SepP d0 d1' d2' d3' (Str.ofString "\n") := sep_n (S := ⟨d0, d1', d2', d3', f0, f1, f2, f3, rs, met⟩) hD (by omega)
        have sp2 : SepP d0 d1' d2' d3' (Str.ofString "\r") := sep_r (S := ⟨d0, d1', d2', d3', f0, f1, f2, f3, rs, met⟩) hD (by omega)
        have sp3 : SepP d0 d1' d2' d3' (Str.ofString "\r\n") := sep_rn (S := ⟨d0, d1', d2', d3', f0, f1, f2, f3, rs, met⟩) hD (by omega)
        have hp : p = 0 ∨ p = 1 ∨ p = 2 ∨ p = 3 := by omega
        obtain ⟨dq, hdq⟩ : ∃ dq, up (dsel d0 d1' d2' d3' p) = dq := ⟨_, rfl⟩
        have stB : Stop := trivial
        k_steps
        unfold Mark
        rename Fr _ _ _ _ => F
        rename News _ _ _ _ => N
        rename _ = Data.cell (some (Value.int p _)) => d4'
        refine jump (l1 := [_, _, _, _, _, _]) (fun s' => Opq (∃ t, Sta s1.heap s1.heap.objs.size sc A ys nA ⟨up d0, up d1', up d2', up d3', f0, f1, f2, f3, rs, met ++ [metOf ⟨d0, d1', d2', d3', f0, f1, f2, f3, rs, met⟩ dq]⟩ [(I, oI')] (some (.int p t)) s1 s')) ?_ ?_
        · clear ih hstep
          refine' hide_led N [(s1.heap.objs.size + 1 + 1 + 1 + 1 + 1 + 1, o6), (s1.heap.objs.size + 1 + 1 + 1 + 1 + 1, o5), (M, listOf mv.toArray nM), (I, oI')] (Fl, _) (R, _) (W, _) (A, _) (s1.heap.objs.size + 1 + 1 + 1 + 1 + 1 + 1 + 1 + 1 + 1, o9) (s1.heap.objs.size + 1 + 1 + 1 + 1 + 1 + 1 + 1 + 1, o8) (s1.heap.objs.size + 1 + 1 + 1 + 1 + 1 + 1 + 1, o7) (s1.heap.objs.size + 1 + 1 + 1 + 1, _) (s1.heap.objs.size + 1 + 1 + 1, o3) (s1.heap.objs.size + 1 + 1, o2) (s1.heap.objs.size + 1, o1) TT ?hs ?kk
          case hs => repeat (first | refine List.forall_mem_cons.mpr ⟨by k_mem, ?_⟩ | exact fun p hp => by (repeat (first | exact hp | apply List.mem_cons_of_mem)))
          intro led e1 e2 e3 e4 e5 e6 e7 e8 e9 e10 e11 e12 hback N9
          have of5 : ∀ p ∈ led, p.1 ≠ s1.heap.objs.size + 1 + 1 + 1 + 1 + 1 := off_back hback (by k_all)
          have of6 : ∀ p ∈ led, p.1 ≠ s1.heap.objs.size + 1 + 1 + 1 + 1 + 1 + 1 := off_back hback (by k_all)
          have ofM : ∀ p ∈ led, p.1 ≠ M := off_back hback (by k_all)
          simp only [List.cons_append, List.nil_append] at N9
          clear N
          k_steps
          unfold Mark
          rename Fr _ _ _ _ => Fb
          rename News _ _ _ _ => Nb
          refine ListComp_PL (x := Str.ofString "read") (x₂ := Str.ofString "dots") Fb Nb (by with_unfolding_all rfl) (by decide) (by rfl) (by decide) (by rfl) (by rfl) (by decide) (by rfl) (told4L (up d0) (up d1') (up d2') (up d3')) (readJ (told4L (up d0) (up d1') (up d2') (up d3'))) (show 4 ≤ 1000 by decide) .nil ?hB ?TB ?_
          case hB =>
            k_steps
            rename Fr _ _ _ _ => Fd
            rename News _ _ _ _ => Nd
            exact ⟨_, [.ref _, .ref _, .ref _, .ref _], _, _, _, _, rfl, rfl, Fd, Nd, fun p hp => hp, by k_mem, ⟨_, _, _, rfl, by k_mem⟩, ⟨_, _, _, rfl, by k_mem⟩, ⟨_, _, _, rfl, by k_mem⟩, ⟨_, _, _, rfl, by k_mem⟩, trivial⟩
          case TB =>
            rintro nw s' I9 ⟨h, tk, rfl⟩ hsub
            clear hsub Nb Fb
            unfold Turn
            intro i9 v₁ v₂ own C oC D ys9 m₂ h tk E' hi hPt hJ hown hNs hm1 hm2 F N hoff hCD hoffo
            obtain ⟨t, u, e⟩ := hPt
            obtain ⟨rfl, rfl⟩ : v₁ = .int _ t ∧ v₂ = .int _ u := by simpa using e
            clear e
            obtain ⟨oa, rfl⟩ := own1 hown
            simp only [List.cons_append, List.nil_append] at N
            unfold tests
            refine wpAny_tests_nil ?_
            simp only [if_true]
            intro E2
            k_steps
            exact ⟨_, _, rfl, F, N, readJ_next hi hJ⟩
          clear Fb Nb
          intro D h tk ysD F N l1 lL hJ
          obtain ⟨z0, z1, z2, z3, rfl⟩ := ints_four hJ
          clear hJ
          k_lt l1
          k_steps
          unfold Mark
          rename Fr _ _ _ _ => Fc
          rename News _ _ _ _ => Nc
          rename _ = Data.cell (some (Value.int _ _)) => dAge
          refine ListComp_PL (x := Str.ofString "read") (x₂ := Str.ofString "dots") Fc Nc (by with_unfolding_all rfl) (by decide) (by rfl) (by decide) (by rfl) (by rfl) (by decide) (by rfl) (told4L (up d0) (up d1') (up d2') (up d3')) (cntJ (told4L (up d0) (up d1') (up d2') (up d3')) dq) (show 4 ≤ 1000 by decide) rfl ?hh ?TT ?fin
          case hh =>
            k_steps
            rename Fr _ _ _ _ => Fd
            rename News _ _ _ _ => Nd
            exact ⟨_, [.ref _, .ref _, .ref _, .ref _], _, _, _, _, rfl, rfl, Fd, Nd, fun p hp => hp, by k_mem, ⟨_, _, _, rfl, by k_mem⟩, ⟨_, _, _, rfl, by k_mem⟩, ⟨_, _, _, rfl, by k_mem⟩, ⟨_, _, _, rfl, by k_mem⟩, trivial⟩
          case TT =>
            rintro nw s' I9 ⟨h, tk, rfl⟩ hsub
            have c6 := hsub (s1.heap.objs.size + 1 + 1 + 1 + 1 + 1 + 1, _) (by k_mem)
            clear hsub Nc Fc
            unfold Turn
            intro i9 v₁ v₂ own C oC D ys9 m₂ h tk E' hi hPt hJ hown hNs hm1 hm2 F N hoff hCD hoffo
            obtain ⟨t, u, e⟩ := hPt
            obtain ⟨rfl, rfl⟩ : v₁ = .int _ t ∧ v₂ = .int _ u := by simpa using e
            clear e
            obtain ⟨oa, rfl⟩ := own1 hown
            simp only [List.cons_append, List.nil_append] at N
            unfold tests
            refine wpAny_tests_one ?_
            k_steps
            · exact ⟨_, _, rfl, F, N, cnt_yes hi hJ (by assumption) (by assumption)⟩
            · exact ⟨_, _, rfl, F, N, cnt_no hi hJ (fun q => absurd q.2 (by assumption))⟩
            · exact ⟨_, _, rfl, F, N, cnt_no hi hJ (fun q => absurd q.1 (by assumption))⟩
          case fin =>
            clear Fc Nc
            intro D h tk ysD F N l1 lL hJ
            have hlen := cnt_all hJ
            have hlen2 : ysD.length ≤ 1000 := by rw [hlen]; exact Nat.le_trans (near_le _ _) (show 4 ≤ 1000 by decide)
            clear hJ
            k_lt l1
            k_steps
            unfold Opq
            rename Fr _ _ _ _ => Fz
            rename News _ _ _ _ => Nz
            rw [hlen, List.push_toArray] at Nz
            refine' ⟨_, Sta.intro (mv := mv ++ [.ref _]) (TT := (_, tupO dq (nearL (told4L (up d0) (up d1') (up d2') (up d3')) dq) _ _) :: TT) Fz ?eW ?eR ?eM ?eN ?p1 ?p2 ?p3 ?p4 ?p5 ?p6 ?p7 ?p8 ?p9 Nz ?sub ?hP ?hmv ?ord ?hTT ?n1 ?n2 ?n3 ?hX⟩
            case eW => rfl
            case eR => rfl
            case eM => rfl
            case eN => rfl
            case sub => repeat (first | refine List.forall_mem_cons.mpr ⟨by k_mem, ?_⟩ | exact fun p hp => by (repeat (first | exact hp | exact e12 p hp | apply List.mem_cons_of_mem)))
            case p1 => assumption
            case p2 => assumption
            case p3 => assumption
            case p4 => assumption
            case p5 => assumption
            case p6 => assumption
            case p7 => assumption
            case p8 => assumption
            case p9 => assumption
            case hP => exact Prs.snoc List.mem_cons_self (Prs.mono (fun p hp => List.mem_cons_of_mem _ hp) hP)
            case hmv => have hpl := hP.length; rw [List.length_append, List.length_singleton]; omega
            case ord => exact ⟨y1, ⟨y21, y22, y23, y24, y25, y26, y27⟩, y3, y4, by omega, ⟨y61, y62, y63, y64, y65, y66, y67⟩, by omega, y8, y9⟩
            case hTT => exact List.forall_mem_cons.mpr ⟨⟨show @LT.lt Nat _ _ _ by omega, show @Ne Nat _ _ by omega⟩, hTT⟩
            case n1 => exact n1
            case n2 => exact n2
            case n3 => exact n3
            case hX =>
              intro q hq
              rw [List.mem_singleton.mp hq]
              exact ⟨x1, x2, x3, show @Ne Nat _ _ by omega, x5, x6, List.forall_mem_cons.mpr ⟨show @Ne Nat _ _ by omega, x7⟩⟩
        · clear F N d4' eW eR eM eN d1 d2 d3 d5 d6 d7 d8 d9 hP hmv ord hTT n1 n2 n3 x1 x2 x3 x4 x5 x6 x7 y1 y21 y22 y23 y24 y25 y26 y27 y3 y4 y5 y61 y62 y63 y64 y65 y66 y67 y7 y8 y9 hT3 hT4 hT5 hT6 hTM sp1 sp2 sp3 hw hdd
          clear h tk h' hx hb tp
          rintro s9 hs9
          unfold Opq at hs9
          obtain ⟨tq, hs9⟩ := hs9
          refine Sta.elim1 hs9 ?_
          clear hs9
          intro h tk m W R Fl M w0 w1 w2 w3 r0 r1 r2 r3 r4 u0 u1 u2 u3 tn mv nW nR nF nM TT o1 o2 o3 o4 o5 o6 o7 o8 o9 v5 v6 v7 v8 v9 F N eW eR eM eN d1 d2 d3 d4 d5 d6 d7 d8 d9 hP hmv ord hTT n1 n2 n3 x1 x2 x3 x4 x5 x6 x7 y1 y21 y22 y23 y24 y25 y26 y27 y3 y4 y5 y61 y62 y63 y64 y65 y66 y67 y7 y8 y9
          replace F := fr_four F eW eR eM eN
          have hT3 : ∀ p ∈ TT, p.1 ≠ s1.heap.objs.size + 1 + 1 + 1 := fun p hp => by have := (hTT p hp).1; exact lne' (by omega)
          refine' hide_led N [(s1.heap.objs.size + 1 + 1 + 1, o3), (R, _), (W, _), (M, listOf mv.toArray nM), (I, oI')] (Fl, _) (R, _) (W, _) (A, _) (s1.heap.objs.size + 1 + 1 + 1 + 1 + 1 + 1 + 1 + 1 + 1, o9) (s1.heap.objs.size + 1 + 1 + 1 + 1 + 1 + 1 + 1 + 1, o8) (s1.heap.objs.size + 1 + 1 + 1 + 1 + 1 + 1 + 1, o7) (s1.heap.objs.size + 1 + 1 + 1 + 1 + 1 + 1, o6) (s1.heap.objs.size + 1 + 1 + 1 + 1 + 1, o5) (s1.heap.objs.size + 1 + 1 + 1 + 1, o4) (s1.heap.objs.size + 1 + 1, o2) ((s1.heap.objs.size + 1, o1) :: TT) ?hs2 ?kk2
          case hs2 => repeat (first | refine List.forall_mem_cons.mpr ⟨by k_mem, ?_⟩ | exact fun p hp => by (repeat (first | exact hp | apply List.mem_cons_of_mem)))
          intro led e1 e2 e3 e4 e5 e6 e7 e8 e9 e10 e11 e12 hback N9
          have of3 : ∀ p ∈ led, p.1 ≠ s1.heap.objs.size + 1 + 1 + 1 := off_back hback (by k_all)
          simp only [List.cons_append, List.nil_append] at N9
          clear N hback
          refine jump (l1 := [_]) (fun s' => Opq (∃ (D : Addr) (r0 r1 r2 r3 r4 : Tok) (n : Nat) (h : Heap) (tk : Nat) (m' : Str → Option Value), s' = { s1 with heap := h, toks := tk } ∧ m' (Str.ofString "words") = some (.ref W) ∧ m' (Str.ofString "rows") = some (.ref D) ∧ m' (Str.ofString "met") = some (.ref M) ∧ m' (Str.ofString "number") = some (.int (apV rs) tn) ∧ Fr s1.heap s1.heap.objs.size h m' ∧
            News s1.heap s1.heap.objs.size h ((D, listOf #[.str (rowS 0 (step ⟨d0, d1', d2', d3', f0, f1, f2, f3, rs, met⟩ p).d0) r0, .str (rowS 1 (step ⟨d0, d1', d2', d3', f0, f1, f2, f3, rs, met⟩ p).d1) r1, .str (rowS 2 (step ⟨d0, d1', d2', d3', f0, f1, f2, f3, rs, met⟩ p).d2) r2, .str (rowS 3 (step ⟨d0, d1', d2', d3', f0, f1, f2, f3, rs, met⟩ p).d3) r3, .str (Str.ofString "") r4] n) :: (s1.heap.objs.size + 1 + 1 + 1, o3) :: (M, listOf mv.toArray nM) :: (I, oI') :: led) ∧
            @LT.lt Nat instLTNat M D ∧ @LT.lt Nat instLTNat I D)) ?_ ?_
          · clear ih hstep hdq eW eR eM eN d1 d2 d3 d5 d6 d7 d8 d9 hP hmv ord hTT n1 n2 n3 x2 x3 x4 x5 x6 x7 y1 y21 y22 y23 y24 y25 y26 y27 y3 y4 y5 y61 y62 y63 y64 y65 y66 y67 y7 y8 hT3 e12
            have rowsM : RowsM := trivial
            k_steps
            unfold Opq
            rename Fr _ _ _ _ => Fz
            rename News _ _ _ _ => Nz
            obtain ⟨t0, t1, t2, t3, t4, Nq⟩ := rows_done f0 f1 f2 f3 rs met hp Nz
            exact ⟨_, t0, t1, t2, t3, t4, _, _, _, _, rfl, by rfl, by rfl, by rfl, by rfl, Fz, news_sub Nq (by repeat (first | refine List.forall_mem_cons.mpr ⟨by k_mem, ?_⟩ | exact fun p hp => by (repeat (first | exact hp | apply List.mem_cons_of_mem)))), show @LT.lt Nat _ _ _ by omega, show @LT.lt Nat _ _ _ by omega⟩
          clear F N9 e2 eW eR eM eN h tk r0 r1 r2 r3 r4
          rintro s10 hs10
          unfold Opq at hs10
          obtain ⟨D, r0, r1, r2, r3, r4, nD, h, tk, m', rfl, eW, eR, eM, eN, F, N, lD1, lD2⟩ := hs10
          replace F := fr_four F eW eR eM eN
          have stS : StopC := trivial
          k_steps
          unfold Mark
          rename Fr _ _ _ _ => Fh
          rename News _ _ _ _ => Nh
          refine LCg.CompSrc.range (n := 4) (by rfl) Fh Nh (by assumption) (by decide) (by rfl) (by rw [sizeLine_eq]; omega) fun g => ?_
          refine rest_mapB (G := flagG ⟨d0, d1', d2', d3', f0, f1, f2, f3, rs, met⟩ p) trivial 4 ?turnF ?finF 4 0 [] rfl rfl (fun j hj => absurd hj (Nat.not_lt_zero _))
          case turnF =>
            intro i9 v I9 oI9 C oC D9 m₂ h tk ys9 E' hi7 hP9 hNs hm1 F N
            obtain ⟨t9, rfl⟩ := hP9
            clear Fh Nh
            k_steps
            all_goals
              unfold Opq
              rename Fr _ _ _ _ => F8
              rename News _ _ _ _ => N8
            · exact ⟨⟨_, congrArg (Value.int · _) (flag_eq hp (by assumption))⟩, _, _, rfl, F8, fun p hp => N8 p (by (repeat (first | exact hp | apply List.mem_cons_of_mem)))⟩
            · exact ⟨⟨_, congrArg (Value.int · _) (flag_ne (S := ⟨d0, d1', d2', d3', f0, f1, f2, f3, rs, met⟩) hp hi7 (by assumption))⟩, _, _, rfl, F8, fun p hp => N8 p (by (repeat (first | exact hp | apply List.mem_cons_of_mem)))⟩
          intro ys9 hl9 hg9
          obtain ⟨z0, z1, z2, z3, rfl⟩ := flags_four hl9 hg9
          clear Fh Nh hg9 hl9
          k_steps
          unfold Mark
          rename Fr _ _ _ _ => Fz
          rename News _ _ _ _ => Nz
          rename _ ∧ _ ∧ _ ∧ _ ∧ LCg.Off1 _ _ => hO
          have hOl := off1_mem hO.2.2.2.2
          have e13 := e12 _ List.mem_cons_self
          have hrs := rs_next (rs := rs) (p.toNat + 1) n1 n2 (by omega)
          have hpm := step_metP (S := ⟨d0, d1', d2', d3', f0, f1, f2, f3, rs, met⟩) hp
          rw [show up (dsel d0 d1' d2' d3' p) = dq from hdq] at hpm
          refine ih _ ⟨i + 1, oI', step ⟨d0, d1', d2', d3', f0, f1, f2, f3, rs, met⟩ p, some (.int p tq), by omega, hstep.symm, hI', ?_⟩
          refine' Sta.intro (mv := mv) (TT := TT) Fz ?eW ?eR ?eM ?eN ?p1 ?p2 ?p3 ?p4 ?p5 ?p6 ?p7 ?p8 ?p9 Nz ?sub ?hP hmv ?ord hTT ?n1 ?n2 ?n3 ?hX
          case eW => rfl
          case eR => rfl
          case eM => rfl
          case eN => rw [step_rs hp]; rfl
          case sub => repeat (first | refine List.forall_mem_cons.mpr ⟨by k_mem, ?_⟩ | exact fun p hp => by (repeat (first | exact hp | exact e12 p (List.mem_cons_of_mem _ hp) | apply List.mem_cons_of_mem)))
          case p1 => assumption
          case p2 => assumption
          case p3 => assumption
          case p4 => assumption
          case p5 => assumption
          case p6 => assumption
          case p7 => assumption
          case p8 => assumption
          case p9 => assumption
          case hP => rw [hpm]; exact hP
          case n1 => rw [step_rs hp]; exact hrs.1
          case n2 => rw [step_rs hp]; exact hrs.2.1
          case n3 => rw [step_rs hp]; exact hrs.2.2
          case ord => exact ⟨y1, ⟨y21, y22, y23, y24, y25, y26, y27⟩, y3, y4, by omega, ⟨hO.2.1.symm, (hOl _ e10).symm, (hOl _ e9).symm, (hOl _ e8).symm, (hOl _ e7).symm, (hOl _ e6).symm, (hOl _ e5).symm⟩, by omega, hO.2.2.1.symm, y9⟩
          case hX =>
            intro q hq
            rw [List.mem_singleton.mp hq]
            exact ⟨x1, x2, hO.2.2.2.1, show @Ne Nat _ _ by omega, x5, x6, x7⟩
  clear hS s2 v4
  rintro s3 hS
  unfold Opq at hS
  obtain ⟨v4, hS⟩ := hS
  have late : Late := trivial
  refine jump (l1 := [_, _]) (fun s' => Opq (∃ kv, IntsAre kv (cacheF 4 as).1 ∧ Stb s1.heap s1.heap.objs.size A ys nA (run as) kv [] s1 s')) ?_ ?_
  · skip
    generalize hR : run as = S at hS ⊢
    have hD := run_le as
    rw [hR, lA] at hD
    have hlen7 := lA
    obtain ⟨d0, d1', d2', d3', f0, f1, f2, f3, rs, met⟩ := S
    dsimp only [Dle] at hD
    refine Sta.elim0 hS ?_
    clear hS
    intro h tk m W R Fl M w0 w1 w2 w3 r0 r1 r2 r3 r4 u0 u1 u2 u3 tn mv nW nR nF nM TT o1 o2 o3 o4 o5 o6 o7 o8 o9 v5 v6 v7 v8 v9 F N eW eR eM eN d1 d2 d3 d4 d5 d6 d7 d8 d9 hP hmv ord hTT n1 n2 n3 y1 y21 y22 y23 y24 y25 y26 y27 y3 y4 y5 y61 y62 y63 y64 y65 y66 y67 y7 y8 y9
    replace F := fr_four F eW eR eM eN
    have hT5 : ∀ p ∈ TT, p.1 ≠ s1.heap.objs.size + 1 + 1 + 1 + 1 + 1 := fun p hp => by have := (hTT p hp).1; exact lne' (by omega)
    have hT7 : ∀ p ∈ TT, p.1 ≠ s1.heap.objs.size + 1 + 1 + 1 + 1 + 1 + 1 + 1 := fun p hp => by have := (hTT p hp).1; exact lne' (by omega)
    have hdd : up d0 ≤ 100 ∧ up d1' ≤ 100 ∧ up d2' ≤ 100 ∧ up d3' ≤ 100 := ⟨Nat.le_trans (up_le hD.1) (by omega), Nat.le_trans (up_le hD.2.1) (by omega), Nat.le_trans (up_le hD.2.2.1) (by omega), Nat.le_trans (up_le hD.2.2.2) (by omega)⟩
    have hw : ((rows5 d0 d1' d2' d3').map (·.length)).sum + (rows5 d0 d1' d2' d3').length ≤ 1048576 := rows_fit (by have := hD.1; omega) (by have := hD.2.1; omega) (by have := hD.2.2.1; omega) (by have := hD.2.2.2; omega)
    have q1 := mail_n d0 d1' d2' d3'
    have z1 : (Txt.join (Str.ofString "\n") (rows5 d0 d1' d2' d3')).cps.size ≤ 2 ^ 19 := join_fit (S := ⟨d0, d1', d2', d3', f0, f1, f2, f3, rs, met⟩) (Str.ofString "\n") (by decide) hD (by omega)
    k_steps
    unfold Opq
    rename Fr _ _ _ _ => Fz
    rename News _ _ _ _ => Nz
    rename IntsAre _ (cacheF 4 as).1 => ikv
    refine' ⟨_, ikv, Stb.intro (X := []) (TT := TT) (mv := mv) Fz ?eM ?eN ?p1 ?p2 ?p3 ?p4 ?p5 ?p6 ?p7 ?p8 ?p9 Nz ?sub hP hmv ?ord ?hTT (fun q hq => absurd hq List.not_mem_nil)⟩
    case eM => rfl
    case eN => rfl
    case sub => repeat (first | refine List.forall_mem_cons.mpr ⟨by k_mem, ?_⟩ | exact fun p hp => by (repeat (first | exact hp | apply List.mem_cons_of_mem)))
    case p1 => assumption
    case p2 => assumption
    case p3 => assumption
    case p4 => assumption
    case p5 => assumption
    case p6 => assumption
    case p7 => assumption
    case p8 => assumption
    case p9 => assumption
    case ord => exact ⟨y1, y9, ⟨y62, y66, y67⟩, by omega, by omega, by omega, by omega, by omega, by omega⟩
    case hTT => exact fun p hp => (hTT p hp).1
  clear hS s3 v4
  rintro s4 hS
  unfold Opq at hS
  obtain ⟨kv, ikv, hS⟩ := hS
  refine jump (l1 := [_]) (fun s' => Opq (Stb s1.heap s1.heap.objs.size A ys nA (run as) kv [] s1 s')) ?_ ?_
  · skip
    generalize hR : run as = S at hS ⊢
    have hsf := sort_fact as bA
    rw [hR] at hsf
    obtain ⟨d0, d1', d2', d3', f0, f1, f2, f3, rs, met⟩ := S
    dsimp only at hsf
    refine Stb.elim0 hS ?_
    clear hS
    intro h tk m M Fl D b0 b1 b2 b3 K u0 u1 u2 u3 tn e0 e1 e2 e3 e4 e5 e6 e7 mv nF nM nD nK TT o1 o2 o3 o4 o5 o6 o7 o8 o9 v1 v4 v6 v8 v9 F N eM eN d1 d2 d3 d4 d5 d6 d7 d8 d9 hP hmv ord hTT y1 y2 y31 y32 y33 y4 y5 y6 y7 y8 y9
    replace F := fr_two F eM eN
    k_steps
    unfold Mark
    rename Fr _ _ _ _ => Fc
    rename News _ _ _ _ => Nc
    refine ListComp_PL (x := Str.ofString "dots") (x₂ := Str.ofString "k") Fc Nc (by with_unfolding_all rfl) (by decide) (by rfl) (by decide) (by rfl) (by rfl) (by decide) (by rfl) (sortL (negL (up d0) (up d1') (up d2') (up d3'))) (heldJ (sortL (negL (up d0) (up d1') (up d2') (up d3')))) (by rw [sortL_len]; decide) .nil ?hh ?TT ?fin
    case hh =>
      k_steps
      unfold Mark
      rename Fr _ _ _ _ => Fd
      rename News _ _ _ _ => Nd
      refine' sorted_pairs2 (vs := [.ref _, .ref _, .ref _, .ref _]) (ps := negL (up d0) (up d1') (up d2') (up d3')) Fd Nd ?hm ?hP rfl fun D9 k9 h9 out9 F9 N9 l9 hPn => ?_
      case hm => k_mem
      case hP => exact ⟨⟨_, _, _, rfl, by k_mem⟩, ⟨_, _, _, rfl, by k_mem⟩, ⟨_, _, _, rfl, by k_mem⟩, ⟨_, _, _, rfl, by k_mem⟩, trivial⟩
      exact ⟨D9, _, k9, h9, _, _, rfl, rfl, F9, N9, fun p hp => by (repeat (first | exact hp | apply List.mem_cons_of_mem)), List.mem_cons_self, hPn⟩
    case TT =>
      rintro nw s' I9 ⟨h, tk, rfl⟩ hsub
      clear hsub Nc Fc
      unfold Turn
      intro i9 v₁ v₂ own C oC D ys9 m₂ h tk E' hi hPt hJ hown hNs hm1 hm2 F N hoff hCD hoffo
      obtain ⟨t, u, e⟩ := hPt
      have ev1 : v₁ = .int ((sortL (negL (up d0) (up d1') (up d2') (up d3'))).getD i9 (0, 0)).1 t := congrArg (fun a : Array Value => a.getD 0 .none) e
      have ev2 : v₂ = .int ((sortL (negL (up d0) (up d1') (up d2') (up d3'))).getD i9 (0, 0)).2 u := congrArg (fun a : Array Value => a.getD 1 .none) e
      subst ev1 ev2
      clear e
      obtain ⟨oa, rfl⟩ := own1 hown
      simp only [List.cons_append, List.nil_append] at N
      unfold tests
      refine wpAny_tests_one ?_
      generalize hsp : sortL (negL (up d0) (up d1') (up d2') (up d3')) = sp at *
      k_steps
      · exact ⟨_, _, rfl, F, N, held_yes hi hJ (by assumption)⟩
      · exact ⟨_, _, rfl, F, N, held_no hi hJ (by assumption)⟩
    case fin =>
      clear Fc Nc
      intro D h tk ysD F N l1 lL hJ
      have hys := held_all hJ
      rw [hsf] at hys
      clear hJ
      k_lt l1
      k_steps
      unfold Opq
      rename Fr _ _ _ _ => Fz
      rename News _ _ _ _ => Nz
      refine' Stb.intro (X := []) (TT := TT) (mv := mv) Fz ?eM ?eN d1 d2 d3 d4 d5 d6 d7 d8 d9 Nz ?sub hP hmv ord hTT (fun q hq => absurd hq List.not_mem_nil)
      case eM => rfl
      case eN => rfl
      case sub => repeat (first | refine List.forall_mem_cons.mpr ⟨by k_mem, ?_⟩ | exact fun p hp => by (repeat (first | exact hp | apply List.mem_cons_of_mem)))
  clear hS s4
  rintro s5 hS
  unfold Opq at hS
  refine jump (l1 := [_]) (fun s' => Opq (Stb s1.heap s1.heap.objs.size A ys nA (run as) kv [] s1 s')) ?_ ?_
  · skip
    generalize hR : run as = S at hS ⊢
    have hnf := num_fact as bA
    rw [hR] at hnf
    obtain ⟨hnd, hdg, hln, hnf⟩ := hnf
    obtain ⟨d0, d1', d2', d3', f0, f1, f2, f3, rs, met⟩ := S
    dsimp only at hnd hdg hln hnf
    refine Stb.elim0 hS ?_
    clear hS
    intro h tk m M Fl D b0 b1 b2 b3 K u0 u1 u2 u3 tn e0 e1 e2 e3 e4 e5 e6 e7 mv nF nM nD nK TT o1 o2 o3 o4 o5 o6 o7 o8 o9 v1 v4 v6 v8 v9 F N eM eN d1 d2 d3 d4 d5 d6 d7 d8 d9 hP hmv ord hTT y1 y2 y31 y32 y33 y4 y5 y6 y7 y8 y9
    replace F := fr_two F eM eN
    have hbi := ap_ints rs hdg
    rw [hnf] at hbi
    have hln8 : rs.length ≤ 8 := by omega
    have hz1 : (rs.reverse.map apB).toArray.size ≤ 1000 := by simp; omega
    have hkl := ikv.length
    have hk4 : (cacheF 4 as).1.length ≤ 4 := by have := congrArg List.length hnf; simp at this; omega
    k_steps
    unfold Mark
    rename Fr _ _ _ _ => Fc
    rename News _ _ _ _ => Nc
    refine LCg.ListComp_U (F₀ := Fc) (by with_unfolding_all rfl) (by decide) (by rfl) (by decide) (by rfl) ?_
    k_steps
    unfold Mark
    rename Fr _ _ _ _ => Fd
    rename News _ _ _ _ => Nd
    refine' LCg.CompSrc.ledger (its := kv.toArray) (by rfl) Fd Nd ?hm (by rw [List.size_toArray, sizeLine_eq]; omega) fun g => ?_
    case hm => k_mem
    refine rest_map (G := addG (cacheF 4 as).1) ?hS kv.toArray.size ?turn ?fin kv.toArray.size 0 [] (Nat.zero_add _) rfl (fun j hj => absurd hj (Nat.not_lt_zero _))
    case hS => exact .inr ⟨_, by k_mem, rfl, _, rfl⟩
    case turn =>
      intro i9 v I9 oI9 C oC D9 m₂ h tk ys9 E' hP9 hNs hm1 F N
      obtain ⟨k9, t9, hk9, rfl⟩ := ints_pick ikv hP9
      (try clear Fc); (try clear Nc); clear Fd Nd
      refine opq_post ?_
      k_steps
      unfold Opq
      exact ⟨⟨_, _, hk9, rfl⟩, _, _, rfl, F, N⟩
    case fin =>
      intro ys9 hl9 hg9
      have hys9 := ints_add (by rw [hl9, List.size_toArray]; exact hkl) hg9
      (try clear Fc); (try clear Nc); clear Fd Nd hg9
      k_steps
      unfold Opq
      rename Fr _ _ _ _ => Fz
      rename News _ _ _ _ => Nz
      refine' Stb.intro (X := []) (TT := TT) (mv := mv) Fz ?eM ?eN d1 d2 d3 d4 d5 d6 d7 d8 d9 Nz ?sub hP hmv ord hTT (fun q hq => absurd hq List.not_mem_nil)
      case eM => rfl
      case eN => rfl
      case sub => repeat (first | refine List.forall_mem_cons.mpr ⟨by k_mem, ?_⟩ | exact fun p hp => by (repeat (first | exact hp | apply List.mem_cons_of_mem)))
  clear hS s5
  rintro s6 hS
  unfold Opq at hS
  refine jump (l1 := [_]) (fun s' => Opq (Stb s1.heap s1.heap.objs.size A ys nA (run as) kv [] s1 s')) ?_ ?_
  · skip
    generalize hR : run as = S at hS ⊢
    have hsz := size_fact as bA
    rw [hR] at hsz
    refine Stb.elim0 hS ?_
    clear hS
    intro h tk m M Fl D b0 b1 b2 b3 K u0 u1 u2 u3 tn e0 e1 e2 e3 e4 e5 e6 e7 mv nF nM nD nK TT o1 o2 o3 o4 o5 o6 o7 o8 o9 v1 v4 v6 v8 v9 F N eM eN d1 d2 d3 d4 d5 d6 d7 d8 d9 hP hmv ord hTT y1 y2 y31 y32 y33 y4 y5 y6 y7 y8 y9
    replace F := fr_two F eM eN
    k_steps
    unfold Mark ForIt
    rename Fr _ _ _ _ => Fy
    rename News _ _ _ _ => Ny
    rename_i I hI1 lI
    refine use_for (fun σ => ∃ k i : Nat, i + k = 4 ∧ Stb s1.heap s1.heap.objs.size A ys nA S kv [(I, rangeO (1 + (i : Int)) (4 - (i : Int)))] s1 σ) ?_ ?_
    · refine ⟨4, 0, rfl, ?_⟩
      refine Stb.intro (led := _) (X := [(I, rangeO (1 + ((0 : Nat) : Int)) (4 - ((0 : Nat) : Int)))]) Fy (by rfl) (by rfl) d1 d2 d3 d4 d5 d6 d7 d8 d9 Ny (fun p hp => hp) hP hmv ord hTT (fun q hq => ?_)
      rw [List.mem_singleton.mp hq]
      exact ⟨show @LT.lt Nat _ _ _ by omega, show @Ne Nat _ _ by omega, show @Ne Nat _ _ by omega, show @Ne Nat _ _ by omega, show @Ne Nat _ _ by omega, show @Ne Nat _ _ by omega, show @Ne Nat _ _ by omega, show @Ne Nat _ _ by omega, show @Ne Nat _ _ by omega, show @Ne Nat _ _ by omega, fun p hp => Nat.ne_of_lt (allLt_mem lI.2.2.2.2.2.2.2.2.2.2.2.2.2.2.2.2.2.2 p hp)⟩
    · (try clear F); (try clear N)
      clear y1 y2 y31 y32 y33 y4 y5 y6 y7 y8 y9
      clear Fy Ny lI hP hmv ord hTT eM eN d1 d2 d3 d4 d5 d6 d7 d8 d9
      rintro σ ⟨k, hJ⟩
      induction k generalizing σ with
      | zero =>
        obtain ⟨i, hik, hS⟩ := hJ
        refine Stb.elim1 hS ?_
        clear hS
        intro h tk m M Fl D b0 b1 b2 b3 K u0 u1 u2 u3 tn e0 e1 e2 e3 e4 e5 e6 e7 mv nF nM nD nK TT o1 o2 o3 o4 o5 o6 o7 o8 o9 v1 v4 v6 v8 v9 F N eM eN d1 d2 d3 d4 d5 d6 d7 d8 d9 hP hmv ord hTT x1 x2 x3 x4 x5 x6 x7 x8 x9 x10 x11 y1 y2 y31 y32 y33 y4 y5 y6 y7 y8 y9
        refine forr_end hPO rfl F N ?off (by omega) fun h' F' N' => ?_
        case off => exact stb_off x1 x2 x3 x4 x5 x6 x7 x8 x9 x10 x11
        clear F N
        k_steps
        unfold Opq
        exact Stb.intro (led := _) (X := []) F' eM eN d1 d2 d3 d4 d5 d6 d7 d8 d9 N' (fun p hp => hp) hP hmv ord hTT (fun q hq => absurd hq List.not_mem_nil)
      | succ k ih =>
        obtain ⟨i, hik, hS⟩ := hJ
        refine Stb.elim1 hS ?_
        clear hS
        intro h tk m M Fl D b0 b1 b2 b3 K u0 u1 u2 u3 tn e0 e1 e2 e3 e4 e5 e6 e7 mv nF nM nD nK TT o1 o2 o3 o4 o5 o6 o7 o8 o9 v1 v4 v6 v8 v9 F N eM eN d1 d2 d3 d4 d5 d6 d7 d8 d9 hP hmv ord hTT x1 x2 x3 x4 x5 x6 x7 x8 x9 x10 x11 y1 y2 y31 y32 y33 y4 y5 y6 y7 y8 y9
        have hord := ord
        replace F := fr_two F eM eN
        have hTc : ∀ p ∈ TT, p.1 ≠ s1.heap.objs.size + 1 + 1 + 1 + 1 + 1 + 1 + 1 + 1 := fun p hp => by have := hTT p hp; exact lne' (by omega)
        refine forr_item hPO F N ?off (by omega) fun h' F' N' => ?_
        case off => exact stb_off x1 x2 x3 x4 x5 x6 x7 x8 x9 x10 x11
        clear F N
        rw [show 1 + (i : Int) + 1 = 1 + ((i + 1 : Nat) : Int) by omega, show (4 : Int) - i - 1 = 4 - ((i + 1 : Nat) : Int) by omega] at N'
        have hi4 : i < 4 := by omega
        k_steps
        unfold Mark
        rename Fr _ _ _ _ => Fc
        rename News _ _ _ _ => Nc
        refine ListComp_PL (x := Str.ofString "age") (x₂ := Str.ofString "nearer") Fc Nc (by with_unfolding_all rfl) (by decide) (by rfl) (by decide) (by rfl) (by rfl) (by decide) (by rfl) S.met (mapJ S.met (fun q => decide (0 < q.1) && decide (q.2 < 1 + (i : Int)))) (by rw [← hP.length]; omega) rfl ?hh ?TT ?fin
        case hh =>
          k_steps
          rename Fr _ _ _ _ => Fd
          rename News _ _ _ _ => Nd
          exact ⟨_, mv, _, _, _, _, rfl, rfl, Fd, Nd, fun p hp => hp, by k_mem, Prs.mono (fun p hp => by (repeat (first | exact hp | apply List.mem_cons_of_mem))) hP⟩
        case TT =>
          rintro nw s' I9 ⟨h, tk, rfl⟩ hsub
          have c8 := hsub (s1.heap.objs.size + 1 + 1 + 1 + 1 + 1 + 1 + 1 + 1, _) (by k_mem)
          clear hsub Nc Fc
          unfold Turn
          intro i9 v₁ v₂ own C oC D ys9 m₂ h tk E' hi hPt hJ hown hNs hm1 hm2 F N hoff hCD hoffo
          obtain ⟨t, u, e⟩ := hPt
          have ev1 : v₁ = .int (S.met.getD i9 (0, 0)).1 t := congrArg (fun a : Array Value => a.getD 0 .none) e
          have ev2 : v₂ = .int (S.met.getD i9 (0, 0)).2 u := congrArg (fun a : Array Value => a.getD 1 .none) e
          subst ev1 ev2
          clear e
          obtain ⟨oa, rfl⟩ := own1 hown
          simp only [List.cons_append, List.nil_append] at N
          unfold tests
          refine wpAny_tests_nil ?_
          simp only [if_true]
          intro E2
          k_steps
          all_goals exact ⟨_, _, rfl, F, N, map_next hi hJ (by first | exact and_no (by assumption) | exact and_no2 (by assumption) | exact and_yes (by assumption))⟩
        case fin =>
          clear Fc Nc
          intro Dq h tk ysD F N l1 lL hJ
          have hys := map_all hJ
          rw [hsz i hi4] at hys
          clear hJ
          k_lt l1
          k_steps
          unfold Mark
          rename Fr _ _ _ _ => Fz
          rename News _ _ _ _ => Nz
          refine ih _ ⟨i + 1, by omega, ?_⟩
          refine' Stb.intro (TT := TT) (mv := mv) (X := [(I, _)]) Fz ?eM ?eN ?p1 ?p2 ?p3 ?p4 ?p5 ?p6 ?p7 ?p8 ?p9 Nz ?sub hP hmv hord hTT (fun q hq => by rw [List.mem_singleton.mp hq]; exact ⟨x1, x2, x3, x4, x5, x6, x7, x8, x9, x10, x11⟩)
          case eM => rfl
          case eN => rfl
          case sub => repeat (first | refine List.forall_mem_cons.mpr ⟨by k_mem, ?_⟩ | exact fun p hp => by (repeat (first | exact hp | apply List.mem_cons_of_mem)))
          case p1 => assumption
          case p2 => assumption
          case p3 => assumption
          case p4 => assumption
          case p5 => assumption
          case p6 => assumption
          case p7 => assumption
          case p8 => assumption
          case p9 => assumption
  clear hS s6
  rintro s7 hS
  unfold Opq at hS
  refine jump (l1 := [_]) (fun s' => Opq (Stb s1.heap s1.heap.objs.size A ys nA (run as) kv [] s1 s')) ?_ ?_
  · skip
    generalize hR : run as = S at hS ⊢
    have hsz := win_fact as lA bA
    rw [hR] at hsz
    refine Stb.elim0 hS ?_
    clear hS
    intro h tk m M Fl D b0 b1 b2 b3 K u0 u1 u2 u3 tn e0 e1 e2 e3 e4 e5 e6 e7 mv nF nM nD nK TT o1 o2 o3 o4 o5 o6 o7 o8 o9 v1 v4 v6 v8 v9 F N eM eN d1 d2 d3 d4 d5 d6 d7 d8 d9 hP hmv ord hTT y1 y2 y31 y32 y33 y4 y5 y6 y7 y8 y9
    replace F := fr_two F eM eN
    k_steps
    unfold Mark ForIt
    rename Fr _ _ _ _ => Fy
    rename News _ _ _ _ => Ny
    rename_i I hI1 lI
    refine use_for (fun σ => ∃ k i : Nat, i + k = 6 ∧ Stb s1.heap s1.heap.objs.size A ys nA S kv [(I, rangeO (1 + (i : Int)) (6 - (i : Int)))] s1 σ) ?_ ?_
    · refine ⟨6, 0, rfl, ?_⟩
      refine Stb.intro (led := _) (X := [(I, rangeO (1 + ((0 : Nat) : Int)) (6 - ((0 : Nat) : Int)))]) Fy (by rfl) (by rfl) d1 d2 d3 d4 d5 d6 d7 d8 d9 Ny (fun p hp => hp) hP hmv ord hTT (fun q hq => ?_)
      rw [List.mem_singleton.mp hq]
      exact ⟨show @LT.lt Nat _ _ _ by omega, show @Ne Nat _ _ by omega, show @Ne Nat _ _ by omega, show @Ne Nat _ _ by omega, show @Ne Nat _ _ by omega, show @Ne Nat _ _ by omega, show @Ne Nat _ _ by omega, show @Ne Nat _ _ by omega, show @Ne Nat _ _ by omega, show @Ne Nat _ _ by omega, fun p hp => Nat.ne_of_lt (allLt_mem lI.2.2.2.2.2.2.2.2.2.2.2.2.2.2.2.2.2.2 p hp)⟩
    · (try clear F); (try clear N)
      clear y1 y2 y31 y32 y33 y4 y5 y6 y7 y8 y9
      clear Fy Ny lI hP hmv ord hTT eM eN d1 d2 d3 d4 d5 d6 d7 d8 d9
      rintro σ ⟨k, hJ⟩
      induction k generalizing σ with
      | zero =>
        obtain ⟨i, hik, hS⟩ := hJ
        refine Stb.elim1 hS ?_
        clear hS
        intro h tk m M Fl D b0 b1 b2 b3 K u0 u1 u2 u3 tn e0 e1 e2 e3 e4 e5 e6 e7 mv nF nM nD nK TT o1 o2 o3 o4 o5 o6 o7 o8 o9 v1 v4 v6 v8 v9 F N eM eN d1 d2 d3 d4 d5 d6 d7 d8 d9 hP hmv ord hTT x1 x2 x3 x4 x5 x6 x7 x8 x9 x10 x11 y1 y2 y31 y32 y33 y4 y5 y6 y7 y8 y9
        refine forr_end hPO rfl F N ?off (by omega) fun h' F' N' => ?_
        case off => exact stb_off x1 x2 x3 x4 x5 x6 x7 x8 x9 x10 x11
        clear F N
        k_steps
        unfold Opq
        exact Stb.intro (led := _) (X := []) F' eM eN d1 d2 d3 d4 d5 d6 d7 d8 d9 N' (fun p hp => hp) hP hmv ord hTT (fun q hq => absurd hq List.not_mem_nil)
      | succ k ih =>
        obtain ⟨i, hik, hS⟩ := hJ
        refine Stb.elim1 hS ?_
        clear hS
        intro h tk m M Fl D b0 b1 b2 b3 K u0 u1 u2 u3 tn e0 e1 e2 e3 e4 e5 e6 e7 mv nF nM nD nK TT o1 o2 o3 o4 o5 o6 o7 o8 o9 v1 v4 v6 v8 v9 F N eM eN d1 d2 d3 d4 d5 d6 d7 d8 d9 hP hmv ord hTT x1 x2 x3 x4 x5 x6 x7 x8 x9 x10 x11 y1 y2 y31 y32 y33 y4 y5 y6 y7 y8 y9
        have hord := ord
        replace F := fr_two F eM eN
        have hTc : ∀ p ∈ TT, p.1 ≠ s1.heap.objs.size + 1 + 1 + 1 + 1 + 1 + 1 + 1 + 1 + 1 := fun p hp => by have := hTT p hp; exact lne' (by omega)
        refine forr_item hPO F N ?off (by omega) fun h' F' N' => ?_
        case off => exact stb_off x1 x2 x3 x4 x5 x6 x7 x8 x9 x10 x11
        clear F N
        rw [show 1 + (i : Int) + 1 = 1 + ((i + 1 : Nat) : Int) by omega, show (6 : Int) - i - 1 = 6 - ((i + 1 : Nat) : Int) by omega] at N'
        have hi4 : i < 6 := by omega
        k_steps
        unfold Mark
        rename Fr _ _ _ _ => Fc
        rename News _ _ _ _ => Nc
        refine ListComp_PL (x := Str.ofString "age") (x₂ := Str.ofString "nearer") Fc Nc (by with_unfolding_all rfl) (by decide) (by rfl) (by decide) (by rfl) (by rfl) (by decide) (by rfl) S.met (mapJ S.met (fun q => decide (0 < q.1) && decide (q.1 ≤ 1 + (i : Int) + 1))) (by rw [← hP.length]; omega) rfl ?hh ?TT ?fin
        case hh =>
          k_steps
          rename Fr _ _ _ _ => Fd
          rename News _ _ _ _ => Nd
          exact ⟨_, mv, _, _, _, _, rfl, rfl, Fd, Nd, fun p hp => hp, by k_mem, Prs.mono (fun p hp => by (repeat (first | exact hp | apply List.mem_cons_of_mem))) hP⟩
        case TT =>
          rintro nw s' I9 ⟨h, tk, rfl⟩ hsub
          have c8 := hsub (s1.heap.objs.size + 1 + 1 + 1 + 1 + 1 + 1 + 1 + 1 + 1, _) (by k_mem)
          clear hsub Nc Fc
          unfold Turn
          intro i9 v₁ v₂ own C oC D ys9 m₂ h tk E' hi hPt hJ hown hNs hm1 hm2 F N hoff hCD hoffo
          obtain ⟨t, u, e⟩ := hPt
          have ev1 : v₁ = .int (S.met.getD i9 (0, 0)).1 t := congrArg (fun a : Array Value => a.getD 0 .none) e
          have ev2 : v₂ = .int (S.met.getD i9 (0, 0)).2 u := congrArg (fun a : Array Value => a.getD 1 .none) e
          subst ev1 ev2
          clear e
          obtain ⟨oa, rfl⟩ := own1 hown
          simp only [List.cons_append, List.nil_append] at N
          unfold tests
          refine wpAny_tests_nil ?_
          simp only [if_true]
          intro E2
          k_steps
          all_goals exact ⟨_, _, rfl, F, N, map_next hi hJ (by first | exact and_no (by assumption) | exact and_no2 (by assumption) | exact and_yes (by assumption))⟩
        case fin =>
          clear Fc Nc
          intro Dq h tk ysD F N l1 lL hJ
          have hys := map_all hJ
          rw [hsz i hi4] at hys
          clear hJ
          k_lt l1
          k_steps
          unfold Mark
          rename Fr _ _ _ _ => Fg
          rename News _ _ _ _ => Ng
          refine LCg.ListComp_U (F₀ := Fg) (by with_unfolding_all rfl) (by decide) (by rfl) (by decide) (by rfl) ?_
          have stS : Stop := trivial
          k_steps
          unfold Mark
          rename Fr _ _ _ _ => Fh
          rename News _ _ _ _ => Nh
          refine LCg.CompSrc.range (n := 7) (by rfl) Fh Nh (by assumption) (by decide) (by rfl) (by rw [sizeLine_eq]; omega) fun g => ?_
          refine rest_mapB (G := winG as (i + 1)) trivial 7 ?turn2 ?fin2 7 0 [] rfl rfl (fun j hj => absurd hj (Nat.not_lt_zero _))
          case turn2 =>
            intro i9 v I9 oI9 C oC D9 m₂ h tk ys9 E' hi7 hP9 hNs hm1 F N
            obtain ⟨t9, rfl⟩ := hP9
            (try clear Fg); (try clear Ng); clear Fh Nh
            k_steps
            unfold Opq
            rename Fr _ _ _ _ => F8
            rename News _ _ _ _ => N8
            exact ⟨congrArg Value.bool (win_eq lA hi7), _, _, rfl, F8, fun p hp => N8 p (by (repeat (first | exact hp | apply List.mem_cons_of_mem)))⟩
          case fin2 =>
            intro ys9 hl9 hg9
            have hys9 := win_all hl9 hg9
            (try clear Fg); (try clear Ng); clear Fh Nh hg9
            k_steps
            unfold Mark
            rename Fr _ _ _ _ => Fz
            rename News _ _ _ _ => Nz
            refine ih _ ⟨i + 1, by omega, ?_⟩
            refine' Stb.intro (TT := TT) (mv := mv) (X := [(I, _)]) Fz ?eM ?eN ?p1 ?p2 ?p3 ?p4 ?p5 ?p6 ?p7 ?p8 ?p9 Nz ?sub hP hmv hord hTT (fun q hq => by rw [List.mem_singleton.mp hq]; exact ⟨x1, x2, x3, x4, x5, x6, x7, x8, x9, x10, x11⟩)
            case eM => rfl
            case eN => rfl
            case sub => repeat (first | refine List.forall_mem_cons.mpr ⟨by k_mem, ?_⟩ | exact fun p hp => by (repeat (first | exact hp | apply List.mem_cons_of_mem)))
            case p1 => assumption
            case p2 => assumption
            case p3 => assumption
            case p4 => assumption
            case p5 => assumption
            case p6 => assumption
            case p7 => assumption
            case p8 => assumption
            case p9 => assumption
  clear hS s7
  rintro s8 hS
  unfold Opq at hS
  · skip
    generalize hR : run as = S at hS
    have hff := flag_fact as bA
    rw [hR] at hff
    refine Stb.elim0 hS ?_
    clear hS
    intro h tk m M Fl D b0 b1 b2 b3 K u0 u1 u2 u3 tn e0 e1 e2 e3 e4 e5 e6 e7 mv nF nM nD nK TT o1 o2 o3 o4 o5 o6 o7 o8 o9 v1 v4 v6 v8 v9 F N eM eN d1 d2 d3 d4 d5 d6 d7 d8 d9 hP hmv ord hTT y1 y2 y31 y32 y33 y4 y5 y6 y7 y8 y9
    replace F := fr_two F eM eN
    k_steps
    unfold Mark ForIt
    rename Fr _ _ _ _ => Fy
    rename News _ _ _ _ => Ny
    rename_i I hI1 lI
    refine use_for (fun σ => ∃ k i : Nat, i + k = 4 ∧ Stb s1.heap s1.heap.objs.size A ys nA S kv [(I, rangeO (0 + (i : Int)) (4 - (i : Int)))] s1 σ) ?_ ?_
    · refine ⟨4, 0, rfl, ?_⟩
      refine Stb.intro (led := _) (X := [(I, rangeO (0 + ((0 : Nat) : Int)) (4 - ((0 : Nat) : Int)))]) Fy (by rfl) (by rfl) d1 d2 d3 d4 d5 d6 d7 d8 d9 Ny (fun p hp => hp) hP hmv ord hTT (fun q hq => ?_)
      rw [List.mem_singleton.mp hq]
      exact ⟨show @LT.lt Nat _ _ _ by omega, show @Ne Nat _ _ by omega, show @Ne Nat _ _ by omega, show @Ne Nat _ _ by omega, show @Ne Nat _ _ by omega, show @Ne Nat _ _ by omega, show @Ne Nat _ _ by omega, show @Ne Nat _ _ by omega, show @Ne Nat _ _ by omega, show @Ne Nat _ _ by omega, fun p hp => Nat.ne_of_lt (allLt_mem lI.2.2.2.2.2.2.2.2.2.2.2.2.2.2.2.2.2.2 p hp)⟩
    · (try clear F); (try clear N)
      clear y1 y2 y31 y32 y33 y4 y5 y6 y7 y8 y9
      clear Fy Ny lI hP hmv ord hTT eM eN d1 d2 d3 d4 d5 d6 d7 d8 d9
      rintro σ ⟨k, hJ⟩
      induction k generalizing σ with
      | zero =>
        obtain ⟨i, hik, hS⟩ := hJ
        refine Stb.elim1 hS ?_
        clear hS
        intro h tk m M Fl D b0 b1 b2 b3 K u0 u1 u2 u3 tn e0 e1 e2 e3 e4 e5 e6 e7 mv nF nM nD nK TT o1 o2 o3 o4 o5 o6 o7 o8 o9 v1 v4 v6 v8 v9 F N eM eN d1 d2 d3 d4 d5 d6 d7 d8 d9 hP hmv ord hTT x1 x2 x3 x4 x5 x6 x7 x8 x9 x10 x11 y1 y2 y31 y32 y33 y4 y5 y6 y7 y8 y9
        refine forr_end hPO rfl F N ?off (by omega) fun h' F' N' => ?_
        case off => exact stb_off x1 x2 x3 x4 x5 x6 x7 x8 x9 x10 x11
        clear F N
        k_steps
        exact hq _ _ _ (by assumption)
      | succ k ih =>
        obtain ⟨i, hik, hS⟩ := hJ
        refine Stb.elim1 hS ?_
        clear hS
        intro h tk m M Fl D b0 b1 b2 b3 K u0 u1 u2 u3 tn e0 e1 e2 e3 e4 e5 e6 e7 mv nF nM nD nK TT o1 o2 o3 o4 o5 o6 o7 o8 o9 v1 v4 v6 v8 v9 F N eM eN d1 d2 d3 d4 d5 d6 d7 d8 d9 hP hmv ord hTT x1 x2 x3 x4 x5 x6 x7 x8 x9 x10 x11 y1 y2 y31 y32 y33 y4 y5 y6 y7 y8 y9
        have hord := ord
        replace F := fr_two F eM eN
        have hTc : ∀ p ∈ TT, p.1 ≠ s1.heap.objs.size + 1 + 1 + 1 + 1 := fun p hp => by have := hTT p hp; exact lne' (by omega)
        refine forr_item hPO F N ?off (by omega) fun h' F' N' => ?_
        case off => exact stb_off x1 x2 x3 x4 x5 x6 x7 x8 x9 x10 x11
        clear F N
        rw [show 0 + (i : Int) + 1 = 0 + ((i + 1 : Nat) : Int) by omega, show (4 : Int) - i - 1 = 4 - ((i + 1 : Nat) : Int) by omega] at N'
        have hi4 : i < 4 := by omega
        obtain ⟨f1a, f1b, f1c, f1d⟩ := hff i hi4
        have hfl : IntsAre [Value.int S.f0 u0, Value.int S.f1 u1, Value.int S.f2 u2, Value.int S.f3 u3] (flL S) := .cons _ _ (.cons _ _ (.cons _ _ (.cons _ _ .nil)))
        generalize hfg : ([Value.int S.f0 u0, Value.int S.f1 u1, Value.int S.f2 u2, Value.int S.f3 u3] : List Value) = fvs at N' hfl
        have hfl4 : (flL S).length = 4 := rfl
        have hkl := ikv.length
        have hk4 : (cacheF 4 as).1.length ≤ 4 := by
          have hnf := num_fact as bA
          have q := congrArg List.length hnf.2.2.2
          rw [List.length_map, List.length_map, List.length_reverse] at q
          have := hnf.2.2.1
          omega
        generalize hfS : flL S = fl at *
        generalize hks : (cacheF 4 as).1 = ks at *
        cases hany : ks.any (· == 0 + (i : Int)) with
        | true =>
          have f2 := f1c hany
          k_steps
          unfold Mark
          rename Fr _ _ _ _ => Fg
          rename News _ _ _ _ => Ng
          refine LCt.ListComp_T (F₀ := Fg) (by with_unfolding_all rfl) (by decide) (by rfl) (by decide) (by rfl) ?_
          have stS : Stop := trivial
          k_steps
          unfold Mark
          rename Fr _ _ _ _ => Fh
          rename News _ _ _ _ => Nh
          refine LCt.CompSrcT.range (n := 4) (by rfl) Fh Nh (by assumption) (by decide) (by rfl) (by rw [sizeLine_eq]; omega) fun g => ?_
          refine rest_filter (J := outJ ks) trivial 4 ?turn2 ?fin2 4 0 [] rfl .nil
          case turn2 =>
            intro i9 v I9 oI9 C oC D9 m₂ h tk ys9 E' hi7 hP9 hJ9 hNs hm1 F N
            obtain ⟨t9, rfl⟩ := hP9
            (try clear Fg); (try clear Ng); clear Fh Nh
            cases hin : ks.any (· == 0 + (i9 : Int)) with
            | true =>
              k_steps
              exact ⟨out_no hJ9 hin, _, _, rfl, F, N⟩
            | false =>
              k_steps
              exact ⟨out_yes hJ9 hin, _, _, rfl, F, N⟩
          case fin2 =>
            intro ys9 hJ9
            have hys9 : IntsAre ys9 (outL ks 4) := hJ9
            have hol := outL_len ks
            (try clear Fg); (try clear Ng); clear Fh Nh hJ9
            k_steps
            subst hfg
            unfold Mark
            rename Fr _ _ _ _ => Fz
            rename News _ _ _ _ => Nz
            refine ih _ ⟨i + 1, by omega, ?_⟩
            refine' Stb.intro (TT := TT) (mv := mv) (X := [(I, _)]) Fz ?eM ?eN ?p1 ?p2 ?p3 ?p4 ?p5 ?p6 ?p7 ?p8 ?p9 Nz ?sub hP hmv hord hTT (fun q hq => by rw [List.mem_singleton.mp hq]; exact ⟨x1, x2, x3, x4, x5, x6, x7, x8, x9, x10, x11⟩)
            case eM => rfl
            case eN => rfl
            case sub => repeat (first | refine List.forall_mem_cons.mpr ⟨by k_mem, ?_⟩ | exact fun p hp => by (repeat (first | exact hp | apply List.mem_cons_of_mem)))
            case p1 => assumption
            case p2 => assumption
            case p3 => assumption
            case p4 => assumption
            case p5 => assumption
            case p6 => assumption
            case p7 => assumption
            case p8 => assumption
            case p9 => assumption
        | false =>
          have f2 := f1d hany
          k_steps
          subst hfg
          unfold Mark
          rename Fr _ _ _ _ => Fz
          rename News _ _ _ _ => Nz
          refine ih _ ⟨i + 1, by omega, ?_⟩
          refine' Stb.intro (TT := TT) (mv := mv) (X := [(I, _)]) Fz ?eM ?eN ?p1 ?p2 ?p3 ?p4 ?p5 ?p6 ?p7 ?p8 ?p9 Nz ?sub hP hmv hord hTT (fun q hq => by rw [List.mem_singleton.mp hq]; exact ⟨x1, x2, x3, x4, x5, x6, x7, x8, x9, x10, x11⟩)
          case eM => rfl
          case eN => rfl
          case sub => repeat (first | refine List.forall_mem_cons.mpr ⟨by k_mem, ?_⟩ | exact fun p hp => by (repeat (first | exact hp | apply List.mem_cons_of_mem)))
          case p1 => assumption
          case p2 => assumption
          case p3 => assumption
          case p4 => assumption
          case p5 => assumption
          case p6 => assumption
          case p7 => assumption
          case p8 => assumption
          case p9 => assumption
  )
end Mine
end
theorem PySem.Challenge.cw_tx0002_01_holds : PySem.Challenge.rw_tx0002_01.Holds :=
  Mine.main
