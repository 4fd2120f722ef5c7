import PyProof.Rows.All
import Wide.All
import OpenK.AllK
import Wide.FinOn
import Lean
import PySem.Challenge.RW_rs0108_01
set_option Elab.async false
set_option linter.unusedVariables false
set_option maxRecDepth 100000
set_option compiler.extract_closed false
-- part Hd0
section
open PySem PySem.W PyProof.Rows
namespace Mine
set_option maxRecDepth 100000 in
set_option maxHeartbeats 8000000 in
open_top hd for PySem.Challenge.rw_rs0108_01
end Mine
end
-- part Eps
section
open PySem PySem.W PySem.Calls PyProof.Rows
namespace Mine
/-- a world to have one -/
noncomputable def aW : World := { draws := fun _ _ => 0, params := { strHash := fun _ => 0, shareClass := fun _ => 0, mergeTok := id, idOf := fun _ => 16, idOfShared := fun _ _ => 8, followText := fun _ => false, idOfImm := fun _ => 16 } }
/-- it is enough to show a thing at the one that would break it -/
theorem byEps {V : Type} {P : V → Prop} {i : Nonempty V} {v0 : V} (e : v0 = @Classical.epsilon V i fun v => ¬ P v) (h : P v0) (v : V) : P v :=
  Classical.byContradiction fun hn => by
    have h1 : ¬ P (@Classical.epsilon V i fun v => ¬ P v) := Classical.epsilon_spec (p := fun v => ¬ P v) ⟨v, hn⟩
    rw [← e] at h1
    exact h1 h
end Mine
end
-- part ReM
section
namespace Mine
open PySem PySem.Sre

noncomputable def C1 : Array Nat := #[14, 4, 0, 1, 1, 6, 1, 16, 46, 1]
noncomputable def C3 : Array Nat := #[14, 9, 4, 1, 2, 16, 10, 16, 13, 0, 7, 7, 16, 13, 16, 10, 15, 18, 5, 16, 10, 15, 13, 11, 16, 13, 5, 5, 0, 16, 10, 1, 15, 2, 0, 1]

noncomputable def mm (code text : Array Nat) (start pos handed pc : Nat) (out must : Bool) (frames : List PySem.Sre.Frame) (weight : Nat) (ans : Option Bool) (seen : Seen) : M :=
  { code := code, text := text, lim := text.size, start := start, lastStart := text.size, mustAdvance := must, pc := pc, pos := pos, handed := handed, outermost := out, marks := #[],
    frames := frames, weight := weight, answer := ans, seen := seen }

theorem runFor_done {m : M} (h : m.outcome.isSome = true) : ∀ n, M.runFor n m = m
  | 0 => rfl
  | n + 1 => by rw [M.runFor, if_pos h]
theorem runFor_add (a b : Nat) : ∀ m, M.runFor (a + b) m = M.runFor b (M.runFor a m) := by
  induction a with
  | zero => intro m; rw [Nat.zero_add]; rfl
  | succ a ih =>
    intro m
    rw [Nat.add_right_comm, M.runFor, M.runFor]
    split
    · rename_i h; rw [runFor_done h]
    · exact ih _
/-- m comes to m' -/
noncomputable def Goes (k : Nat) (m m' : M) : Prop := M.runFor k m = m'
theorem Goes.refl (m : M) : Goes 0 m m := rfl
theorem Goes.trans {a b : Nat} {m m' m'' : M} (h : Goes a m m') (h' : Goes b m' m'') : Goes (a + b) m m'' := by
  unfold Goes at *; rw [runFor_add, h, h']
theorem Goes.one {m m' : M} (ho : m.outcome = none) (h : M.step m = m') : Goes 1 m m' := by
  unfold Goes; rw [M.runFor, if_neg (by rw [ho]; exact Bool.false_ne_true), h]; rfl
theorem Goes.cons {k : Nat} {m m' m'' : M} (ho : m.outcome = none) (h : M.step m = m') (h' : Goes k m' m'') : Goes (k + 1) m m'' := by
  rw [Nat.add_comm]; exact (Goes.one ho h).trans h'

section
variable {code text : Array Nat} {st p hd : Nat} {out must : Bool} {fr : List PySem.Sre.Frame} {w : Nat} {seen : Seen}
theorem s1_at :
    ∃ seen', M.step (mm C1 text st p hd 5 out must fr w none seen) = (if (p == 0 || text.getD (p - 1) 0 == 10) = true then mm C1 text st p hd 7 out must fr w none seen' else mm C1 text st p hd 5 out must fr w (some false) seen') := by
  refine ⟨(seen.add 6).add 44, ?_⟩
  cases h : (p == 0 || text.getD (p - 1) 0 == 10) <;>
  · show (if (p == 0 || text.getD (p - 1) 0 == 10) = true then _ else _) = _
    rw [h]; rfl
theorem s1_lit :
    ∃ seen', M.step (mm C1 text st p hd 7 out must fr w none seen) = (if p < text.size ∧ text.getD p 0 = 46 then mm C1 text st (p + 1) hd 9 out must fr w none seen' else mm C1 text st p hd 7 out must fr w (some false) seen') := by
  refine ⟨seen.add 16, ?_⟩
  show (if p ≥ text.size then _ else _) = _
  by_cases h : p < text.size
  · rw [if_neg (by lia)]
    cases h2 : (text.getD p 0 == 46)
    · show (match (Except.ok ((text.getD p 0 == 46), _) : Except String (Bool × Seen)) with | .error _ => _ | .ok (false, _) => _ | .ok (true, _) => _) = _
      rw [h2, if_neg (fun q => by simp [q.2] at h2)]; rfl
    · show (match (Except.ok ((text.getD p 0 == 46), _) : Except String (Bool × Seen)) with | .error _ => _ | .ok (false, _) => _ | .ok (true, _) => _) = _
      rw [h2, if_pos ⟨h, by simpa using h2⟩]; rfl
  · rw [if_pos (by lia), if_neg (by lia)]; rfl
theorem s1_suc (h : p ≠ st) :
    ∃ seen', M.step (mm C1 text st p hd 9 out must fr w none seen) = mm C1 text st p p 9 out must fr w (some true) seen' := by
  refine ⟨seen.add 1, ?_⟩
  show (if (out && ((false && _) || (must && (p == st)))) = true then _ else _) = _
  rw [show (p == st) = false by simpa using h]
  simp
  rfl
noncomputable abbrev fr0 (pc s : Nat) (first : Bool) : PySem.Sre.Frame := { wait := .nextStart, pc := pc, pos := s, outermost := first }
theorem s_yes0 {pc pc' s : Nat} {first : Bool} : M.step (mm code text st p hd pc out must [fr0 pc' s first] 1 (some true) seen) = mm code text st s hd pc' first must [] 0 (some true) seen := rfl
theorem s_end {pc : Nat} {b : Bool} : M.step (mm code text st p hd pc out must [] 0 (some b) seen) = { mm code text st p hd pc out must [] 0 (some b) seen with outcome := some (if b then .matched else .failed) } := rfl
theorem s1_next {pc s : Nat} {first : Bool} :
    M.step (mm C1 text st p hd pc out must [fr0 5 s first] 1 (some false) seen) = (if s < text.size then mm C1 text (s + 1) (s + 1) (s + 1) 5 false false [fr0 5 (s + 1) false] 1 none seen else mm C1 text st s hd 5 first must [] 0 (some false) seen) := by
  show (if s < text.size then _ else _) = _
  split <;> rfl
end

noncomputable def hit1 (text : Array Nat) (p : Nat) : Bool := (p == 0 || text.getD (p - 1) 0 == 10) && (decide (p < text.size) && (text.getD p 0 == 46))
/-- the first place of a hit, with at most n looks -/
noncomputable def find1 (text : Array Nat) : Nat → Nat → Option Nat
  | 0, _ => none
  | n + 1, s => if hit1 text s then some s else find1 text n (s + 1)

structure Ended (m : M) (r : Option (Nat × Nat)) : Prop where
  out : m.outcome = some (if r.isSome then .matched else .failed)
  span : ∀ a b, r = some (a, b) → m.start = a ∧ m.handed = b

theorem run1 (text : Array Nat) : ∀ (n s : Nat) (first must : Bool) (seen : Seen), s + n = text.size + 1 → 1 ≤ n →
    ∃ k m', k ≤ 6 * n ∧ Goes k (mm C1 text s s s 5 first must [fr0 5 s first] 1 none seen) m' ∧ Ended m' ((find1 text n s).map fun a => (a, a + 1)) := by
  intro n
  induction n with
  | zero => intro s first must seen _ h; lia
  | succ n ih =>
    intro s first must seen hs _
    have next : ∀ pc seen', hit1 text s = false → ∃ k m', k ≤ 6 * n + 2 ∧ Goes k (mm C1 text s s s pc first must [fr0 5 s first] 1 (some false) seen') m' ∧ Ended m' ((find1 text (n + 1) s).map fun a => (a, a + 1)) := by
      intro pc seen' hh
      have e := s1_next (text := text) (st := s) (p := s) (hd := s) (out := first) (must := must) (pc := pc) (s := s) (first := first) (seen := seen')
      rw [find1, if_neg (by rw [hh]; exact Bool.false_ne_true)]
      by_cases h : s < text.size
      · rw [if_pos h] at e
        obtain ⟨k, m', hk, hg, he⟩ := ih (s + 1) false false seen' (by lia) (by lia)
        exact ⟨k + 1, m', by lia, .cons rfl e hg, he⟩
      · rw [if_neg h] at e
        have hn : n = 0 := by lia
        subst hn
        exact ⟨2, _, by lia, .cons rfl e (.one rfl s_end), ⟨rfl, fun a b q => by cases q⟩⟩
    obtain ⟨se1, e1⟩ := s1_at (text := text) (st := s) (p := s) (hd := s) (out := first) (must := must) (fr := [fr0 5 s first]) (w := 1) (seen := seen)
    cases h1 : (s == 0 || text.getD (s - 1) 0 == 10) with
    | false =>
      rw [h1, if_neg Bool.false_ne_true] at e1
      obtain ⟨k, m', hk, hg, he⟩ := next 5 se1 (by rw [hit1, h1]; rfl)
      exact ⟨k + 1, m', by lia, .cons rfl e1 hg, he⟩
    | true =>
      rw [h1, if_pos rfl] at e1
      obtain ⟨se2, e2⟩ := s1_lit (text := text) (st := s) (p := s) (hd := s) (out := first) (must := must) (fr := [fr0 5 s first]) (w := 1) (seen := se1)
      by_cases h2 : s < text.size ∧ text.getD s 0 = 46
      · rw [if_pos h2] at e2
        obtain ⟨se3, e3⟩ := s1_suc (text := text) (st := s) (p := s + 1) (hd := s) (out := first) (must := must) (fr := [fr0 5 s first]) (w := 1) (seen := se2) (by lia)
        refine ⟨5, _, by lia, .cons rfl e1 (.cons rfl e2 (.cons rfl e3 (.cons rfl s_yes0 (.one rfl s_end)))), ?_⟩
        have hh : hit1 text s = true := by unfold hit1; rw [h1, decide_eq_true h2.1, h2.2]; rfl
        rw [find1, if_pos hh]
        exact ⟨rfl, fun a b q => by cases q; exact ⟨rfl, rfl⟩⟩
      · rw [if_neg h2] at e2
        obtain ⟨k, m', hk, hg, he⟩ := next 7 se2 (by
          rw [hit1, h1]
          cases h3 : decide (s < text.size) with
          | false => rfl
          | true =>
            have h3 := of_decide_eq_true h3
            have h4 : ¬ text.getD s 0 = 46 := fun q => h2 ⟨h3, q⟩
            rw [beq_eq_false_iff_ne.mpr h4]; rfl)
        exact ⟨k + 2, m', by lia, .cons rfl e1 (.cons rfl e2 hg), he⟩

theorem search1 (text : Array Nat) (s : Nat) (must : Bool) (hs : s ≤ text.size) :
    ∃ k m', k ≤ 6 * (text.size + 2) ∧ Goes k (forSearch C1 text 0 s text.size must) m' ∧ Ended m' ((find1 text (text.size + 1 - s) s).map fun a => (a, a + 1)) := by
  by_cases h : text.size - s < 1
  · have e : s = text.size := by lia
    have hf : find1 text (text.size + 1 - s) s = none := by
      have : text.size + 1 - s = 1 := by lia
      rw [this, find1, hit1, e]
      simp [find1]
    rw [hf]
    have q : forSearch C1 text 0 s text.size must = { { code := C1, text := text, lim := text.size, start := s, pc := 5, pos := s, handed := s, marks := #[], mustAdvance := must, seen := ({} : Seen).add 14 : M } with answer := some false } := by
      unfold forSearch
      show (if (decide (s > text.size) || decide (text.size - s < 1)) = true then _ else _) = _
      rw [if_pos (by rw [decide_eq_true h, Bool.or_true])]; rfl
    rw [q]
    exact ⟨1, _, by lia, .one rfl rfl, ⟨rfl, fun a b q => by cases q⟩⟩
  · have q : forSearch C1 text 0 s text.size must = mm C1 text s s s 5 true must [fr0 5 s true] 1 none (({} : Seen).add 14) := by
      unfold forSearch
      show (if (decide (s > text.size) || decide (text.size - s < 1)) = true then _ else _) = _
      rw [if_neg (by rw [decide_eq_false h, decide_eq_false (by lia)]; exact Bool.false_ne_true)]; rfl
    rw [q]
    obtain ⟨k, m', hk, hg, he⟩ := run1 text (text.size + 1 - s) s true must (({} : Seen).add 14) (by lia) (by lia)
    exact ⟨k, m', by lia, hg, he⟩

/-- where a match of C3 that begins at p ends -/
noncomputable def end3 (text : Array Nat) (p : Nat) : Nat := if text.getD p 0 = 13 ∧ p + 1 < text.size ∧ text.getD (p + 1) 0 = 10 then p + 2 else p + 1
noncomputable def hit3 (text : Array Nat) (p : Nat) : Bool := text.getD p 0 == 10 || text.getD p 0 == 13
noncomputable def find3 (text : Array Nat) : Nat → Nat → Option Nat
  | 0, _ => none
  | n + 1, s => if s < text.size then (if hit3 text s then some s else find3 text n (s + 1)) else none

theorem inSet3 (c : Nat) (seen : Seen) : ∃ seen', inSet C3 c 36 5 true seen = .ok (c == 10 || c == 13, seen') := by
  refine ⟨if c == 10 then seen.add 16 else if c == 13 then (seen.add 16).add 16 else ((seen.add 16).add 16).add 0, ?_⟩
  show (if (c == 10) = true then _ else _) = _
  cases h : (c == 10)
  · show (if (c == 13) = true then _ else _) = _
    cases h2 : (c == 13) <;> rfl
  · rfl
theorem admitted3 (m : M) (hc : m.code = C3) (hl : m.lim = m.text.size) : ∀ (n s : Nat) (seen : Seen), ∃ seen', M.admitted m n s seen = .ok (find3 m.text n s, seen') := by
  intro n
  induction n with
  | zero => intro s seen; exact ⟨seen, rfl⟩
  | succ n ih =>
    intro s seen
    rw [M.admitted, find3, hl]
    by_cases h : s < m.text.size
    · rw [if_neg (by lia), if_pos h, hc]
      obtain ⟨se, e⟩ := inSet3 (m.text.getD s 0) seen
      rw [show C3.size = 36 from rfl, e]
      cases h2 : (m.text.getD s 0 == 10 || m.text.getD s 0 == 13) with
      | true => exact ⟨se, by rw [hit3, h2]; rfl⟩
      | false =>
        obtain ⟨se', e'⟩ := ih (s + 1) se
        exact ⟨se', by rw [hit3, h2]; exact e'⟩
    · exact ⟨seen, by rw [if_pos (by lia), if_neg h]⟩

section
variable {text : Array Nat} {st p hd : Nat} {out must : Bool} {fr : List PySem.Sre.Frame} {w : Nat} {seen : Seen}
theorem s3_lit {pc c : Nat} (hpc : (pc = 12 ∧ c = 13) ∨ (pc = 14 ∧ c = 10) ∨ (pc = 19 ∧ c = 10) ∨ (pc = 24 ∧ c = 13) ∨ (pc = 29 ∧ c = 10)) :
    ∃ seen', M.step (mm C3 text st p hd pc out must fr w none seen) = (if p < text.size ∧ text.getD p 0 = c then mm C3 text st (p + 1) hd (pc + 2) out must fr w none seen' else mm C3 text st p hd pc out must fr w (some false) seen') := by
  refine ⟨seen.add 16, ?_⟩
  by_cases h2 : p < text.size ∧ text.getD p 0 = c
  · rw [if_pos h2]
    have h3 := beq_iff_eq.mpr h2.2
    rcases hpc with ⟨rfl, rfl⟩ | ⟨rfl, rfl⟩ | ⟨rfl, rfl⟩ | ⟨rfl, rfl⟩ | ⟨rfl, rfl⟩ <;>
    · show (if p ≥ text.size then _ else _) = _
      rw [if_neg (by lia)]
      first
        | (show (match (Except.ok ((text.getD p 0 == 13), _) : Except String (Bool × Seen)) with | .error _ => _ | .ok (false, _) => _ | .ok (true, _) => _) = _; rw [h3]; rfl)
        | (show (match (Except.ok ((text.getD p 0 == 10), _) : Except String (Bool × Seen)) with | .error _ => _ | .ok (false, _) => _ | .ok (true, _) => _) = _; rw [h3]; rfl)
  · rw [if_neg h2]
    by_cases h : p < text.size
    · have h3 := beq_eq_false_iff_ne.mpr fun q => h2 ⟨h, q⟩
      rcases hpc with ⟨rfl, rfl⟩ | ⟨rfl, rfl⟩ | ⟨rfl, rfl⟩ | ⟨rfl, rfl⟩ | ⟨rfl, rfl⟩ <;>
      · show (if p ≥ text.size then _ else _) = _
        rw [if_neg (by lia)]
        first
          | (show (match (Except.ok ((text.getD p 0 == 13), _) : Except String (Bool × Seen)) with | .error _ => _ | .ok (false, _) => _ | .ok (true, _) => _) = _; rw [h3]; rfl)
          | (show (match (Except.ok ((text.getD p 0 == 10), _) : Except String (Bool × Seen)) with | .error _ => _ | .ok (false, _) => _ | .ok (true, _) => _) = _; rw [h3]; rfl)
    · rcases hpc with ⟨rfl, rfl⟩ | ⟨rfl, rfl⟩ | ⟨rfl, rfl⟩ | ⟨rfl, rfl⟩ | ⟨rfl, rfl⟩ <;>
      · show (if p ≥ text.size then _ else _) = _
        rw [if_pos (by lia)]; rfl
theorem s3_jump {pc : Nat} (hpc : pc = 16 ∨ pc = 21 ∨ pc = 32) : ∃ seen', M.step (mm C3 text st p hd pc out must fr w none seen) = mm C3 text st p hd 35 out must fr w none seen' := by
  refine ⟨seen.add 15, ?_⟩
  rcases hpc with rfl | rfl | rfl <;> rfl
theorem s3_suc (h : p ≠ st) : ∃ seen', M.step (mm C3 text st p hd 35 out must fr w none seen) = mm C3 text st p p 35 out must fr w (some true) seen' := by
  refine ⟨seen.add 1, ?_⟩
  show (if (out && ((false && _) || (must && (p == st)))) = true then _ else _) = _
  rw [show (p == st) = false by simpa using h]
  simp
  rfl
noncomputable abbrev frB (pc s : Nat) (first : Bool) : PySem.Sre.Frame := { wait := .nextBranch, pc := pc, pos := s, outermost := first, kept := { lastmark := -1, lastindex := -1, whole := false, marks := #[] } }
theorem s3_branch {first : Bool} : ∃ seen', M.step (mm C3 text st p hd 10 out must [fr0 10 st first] 1 none seen) = mm C3 text st p p 12 out must [frB 11 p out, fr0 10 st first] 2 none seen' := ⟨seen.add 7, rfl⟩
theorem s3_alt1 {first : Bool} {q pc : Nat} : M.step (mm C3 text st q hd pc out must [frB 11 p first, fr0 10 st first] 2 (some false) seen) = mm C3 text st p p 19 first must [frB 18 p first, fr0 10 st first] 2 none seen := rfl
theorem s3_alt2 {first : Bool} {q pc : Nat} : M.step (mm C3 text st q hd pc out must [frB 18 p first, fr0 10 st first] 2 (some false) seen) = mm C3 text st p p 24 first must [frB 23 p first, fr0 10 st first] 2 none seen := rfl
noncomputable abbrev frL (s : Nat) (first : Bool) : PySem.Sre.Frame := { wait := .lookNot, pc := 26, pos := s, outermost := first, kept := { lastmark := -1, lastindex := -1, whole := false, marks := #[] } }
theorem s3_not {first : Bool} {b : Nat} : ∃ seen', M.step (mm C3 text st p hd 26 first must [frB 23 b first, fr0 10 st first] 2 none seen) = mm C3 text st p p 29 false must [frL p first, frB 23 b first, fr0 10 st first] 3 none seen' := ⟨seen.add 5, rfl⟩
theorem s3_notno {first : Bool} {q b : Nat} : M.step (mm C3 text st q hd 29 false must [frL p first, frB 23 b first, fr0 10 st first] 3 (some false) seen) = mm C3 text st p hd 32 first must [frB 23 b first, fr0 10 st first] 2 none seen := rfl
theorem s3_yesB {first : Bool} {q b pcb pc : Nat} : M.step (mm C3 text st q hd pc out must [frB pcb b first, fr0 10 st first] 2 (some true) seen) = mm C3 text st b hd pcb first must [fr0 10 st first] 1 (some true) seen := rfl

/-- behind the match: three answers -/
theorem tail3 {first : Bool} {q b pcb : Nat} (h : q ≠ st) : ∃ m', Goes 4 (mm C3 text st q hd 35 out must [frB pcb b first, fr0 10 st first] 2 none seen) m' ∧ Ended m' (some (st, q)) := by
  obtain ⟨se, e⟩ := s3_suc (text := text) (st := st) (p := q) (hd := hd) (out := out) (must := must) (fr := [frB pcb b first, fr0 10 st first]) (w := 2) (seen := seen) h
  exact ⟨_, .cons rfl e (.cons rfl s3_yesB (.cons rfl s_yes0 (.one rfl s_end))), ⟨rfl, fun a b q => by cases q; exact ⟨rfl, rfl⟩⟩⟩
theorem att3 {first : Bool} (hs : st < text.size) (hh : hit3 text st = true) :
    ∃ k m', k ≤ 20 ∧ Goes k (mm C3 text st st st 10 first must [fr0 10 st first] 1 none seen) m' ∧ Ended m' (some (st, end3 text st)) := by
  obtain ⟨se1, e1⟩ := s3_branch (text := text) (st := st) (p := st) (hd := st) (out := first) (must := must) (seen := seen) (first := first)
  obtain ⟨se2, e2⟩ := s3_lit (text := text) (st := st) (p := st) (hd := st) (out := first) (must := must) (fr := [frB 11 st first, fr0 10 st first]) (w := 2) (seen := se1) (pc := 12) (c := 13) (by lia)
  have two : ∀ (pc q : Nat) (se : Seen), text.getD st 0 = 10 → ∃ k m', k ≤ 8 ∧ Goes k (mm C3 text st q st pc first must [frB 11 st first, fr0 10 st first] 2 (some false) se) m' ∧ Ended m' (some (st, st + 1)) := by
    intro pc q se h10
    obtain ⟨sa, ea⟩ := s3_lit (text := text) (st := st) (p := st) (hd := st) (out := first) (must := must) (fr := [frB 18 st first, fr0 10 st first]) (w := 2) (seen := se) (pc := 19) (c := 10) (by lia)
    rw [if_pos ⟨hs, h10⟩] at ea
    obtain ⟨sb, eb⟩ := s3_jump (text := text) (st := st) (p := st + 1) (hd := st) (out := first) (must := must) (fr := [frB 18 st first, fr0 10 st first]) (w := 2) (seen := sa) (pc := 21) (by lia)
    obtain ⟨m', hg, he⟩ := tail3 (text := text) (st := st) (hd := st) (out := first) (must := must) (seen := sb) (first := first) (q := st + 1) (b := st) (pcb := 18) (by lia)
    exact ⟨7, m', by lia, .cons rfl s3_alt1 (.cons rfl ea (.cons rfl eb hg)), he⟩
  have three : ∀ (pc q : Nat) (se : Seen), text.getD st 0 = 13 → ¬ (st + 1 < text.size ∧ text.getD (st + 1) 0 = 10) → ∃ k m', k ≤ 16 ∧ Goes k (mm C3 text st q st pc first must [frB 11 st first, fr0 10 st first] 2 (some false) se) m' ∧ Ended m' (some (st, st + 1)) := by
    intro pc q se h13 hn
    obtain ⟨sa, ea⟩ := s3_lit (text := text) (st := st) (p := st) (hd := st) (out := first) (must := must) (fr := [frB 18 st first, fr0 10 st first]) (w := 2) (seen := se) (pc := 19) (c := 10) (by lia)
    rw [if_neg (by rw [h13]; rintro ⟨_, h⟩; lia)] at ea
    obtain ⟨sb, eb⟩ := s3_lit (text := text) (st := st) (p := st) (hd := st) (out := first) (must := must) (fr := [frB 23 st first, fr0 10 st first]) (w := 2) (seen := sa) (pc := 24) (c := 13) (by lia)
    rw [if_pos ⟨hs, h13⟩] at eb
    obtain ⟨sc, ec⟩ := s3_not (text := text) (st := st) (p := st + 1) (hd := st) (must := must) (seen := sb) (first := first) (b := st)
    obtain ⟨sd, ed⟩ := s3_lit (text := text) (st := st) (p := st + 1) (hd := st + 1) (out := false) (must := must) (fr := [frL (st + 1) first, frB 23 st first, fr0 10 st first]) (w := 3) (seen := sc) (pc := 29) (c := 10) (by lia)
    rw [if_neg hn] at ed
    obtain ⟨sf, ef⟩ := s3_jump (text := text) (st := st) (p := st + 1) (hd := st + 1) (out := first) (must := must) (fr := [frB 23 st first, fr0 10 st first]) (w := 2) (seen := sd) (pc := 32) (by lia)
    obtain ⟨m', hg, he⟩ := tail3 (text := text) (st := st) (hd := st + 1) (out := first) (must := must) (seen := sf) (first := first) (q := st + 1) (b := st) (pcb := 23) (by lia)
    exact ⟨12, m', by lia, .cons rfl s3_alt1 (.cons rfl ea (.cons rfl s3_alt2 (.cons rfl eb (.cons rfl ec (.cons rfl ed (.cons rfl s3_notno (.cons rfl ef hg))))))), he⟩
  by_cases h13 : text.getD st 0 = 13
  · rw [if_pos ⟨hs, h13⟩] at e2
    obtain ⟨se3, e3⟩ := s3_lit (text := text) (st := st) (p := st + 1) (hd := st) (out := first) (must := must) (fr := [frB 11 st first, fr0 10 st first]) (w := 2) (seen := se2) (pc := 14) (c := 10) (by lia)
    by_cases h2 : st + 1 < text.size ∧ text.getD (st + 1) 0 = 10
    · rw [if_pos h2] at e3
      obtain ⟨se4, e4⟩ := s3_jump (text := text) (st := st) (p := st + 1 + 1) (hd := st) (out := first) (must := must) (fr := [frB 11 st first, fr0 10 st first]) (w := 2) (seen := se3) (pc := 16) (by lia)
      obtain ⟨m', hg, he⟩ := tail3 (text := text) (st := st) (hd := st) (out := first) (must := must) (seen := se4) (first := first) (q := st + 1 + 1) (b := st) (pcb := 11) (by lia)
      refine ⟨8, m', by lia, .cons rfl e1 (.cons rfl e2 (.cons rfl e3 (.cons rfl e4 hg))), ?_⟩
      rw [end3, if_pos ⟨h13, h2⟩]; exact he
    · rw [if_neg h2] at e3
      obtain ⟨k, m', hk, hg, he⟩ := three 14 (st + 1) se3 h13 h2
      refine ⟨k + 3, m', by lia, .cons rfl e1 (.cons rfl e2 (.cons rfl e3 hg)), ?_⟩
      rw [end3, if_neg (fun q => h2 q.2)]; exact he
  · rw [if_neg (fun q => h13 q.2)] at e2
    have h10 : text.getD st 0 = 10 := by
      unfold hit3 at hh
      rcases Bool.or_eq_true_iff.mp hh with q | q
      · exact beq_iff_eq.mp q
      · exact absurd (beq_iff_eq.mp q) h13
    obtain ⟨k, m', hk, hg, he⟩ := two 12 st se2 h10
    refine ⟨k + 2, m', by lia, .cons rfl e1 (.cons rfl e2 hg), ?_⟩
    rw [end3, if_neg (fun q => h13 q.1)]; exact he
end

theorem find3_some {text : Array Nat} : ∀ {n s p : Nat}, find3 text n s = some p → p < text.size ∧ hit3 text p = true ∧ s ≤ p
  | 0, _, _, h => by cases h
  | n + 1, s, p, h => by
    rw [find3] at h
    split at h
    · split at h
      · cases h; exact ⟨by assumption, by assumption, Nat.le_refl _⟩
      · have := find3_some h; exact ⟨this.1, this.2.1, by lia⟩
    · cases h

theorem search3 (text : Array Nat) (s : Nat) (must : Bool) (hs : s ≤ text.size) :
    ∃ k m', k ≤ 20 ∧ Goes k (forSearch C3 text 0 s text.size must) m' ∧ Ended m' ((find3 text (text.size + 1 - s) s).map fun a => (a, end3 text a)) := by
  by_cases h : text.size - s < 1
  · have hf : find3 text (text.size + 1 - s) s = none := by
      have : text.size + 1 - s = 1 := by lia
      rw [this, find3, if_neg (by lia)]
    rw [hf]
    have q : forSearch C3 text 0 s text.size must = { { code := C3, text := text, lim := text.size, start := s, pc := 10, pos := s, handed := s, marks := #[], mustAdvance := must, seen := ({} : Seen).add 14 : M } with answer := some false } := by
      unfold forSearch
      show (if (decide (s > text.size) || decide (text.size - s < 1)) = true then _ else _) = _
      rw [if_pos (by rw [decide_eq_true h, Bool.or_true])]; rfl
    rw [q]
    exact ⟨1, _, by lia, .one rfl rfl, ⟨rfl, fun a b q => by cases q⟩⟩
  · have q : forSearch C3 text 0 s text.size must = M.attemptFrom { code := C3, text := text, lim := text.size, start := s, lastStart := text.size, pc := 10, pos := s, handed := s, marks := #[], mustAdvance := must, seen := ({} : Seen).add 14 : M } s true := by
      unfold forSearch
      show (if (decide (s > text.size) || decide (text.size - s < 1)) = true then _ else _) = _
      rw [if_neg (by rw [decide_eq_false h, decide_eq_false (by lia)]; exact Bool.false_ne_true)]; rfl
    rw [q]
    generalize hm : ({ code := C3, text := text, lim := text.size, start := s, lastStart := text.size, pc := 10, pos := s, handed := s, marks := #[], mustAdvance := must, seen := ({} : Seen).add 14 : M }) = m
    have hc : m.code = C3 := by rw [← hm]
    have ht : m.text = text := by rw [← hm]
    have hl : m.lim = m.text.size := by rw [← hm]
    obtain ⟨se, e⟩ := admitted3 m hc hl (m.lim + 1 - s) s m.seen
    have q2 : M.attemptFrom m s true = (match M.admitted m (m.lim + 1 - s) s m.seen with | .ok (some s, seen) => M.attemptAt { m with mustAdvance := false, seen } s true | .ok (none, seen) => M.say { m with seen } false | .error why => m.stick why) := by
      rw [← hm]; rfl
    have ef : find3 m.text (m.lim + 1 - s) s = find3 text (text.size + 1 - s) s := by rw [hl, ht]
    rw [ef] at e
    rw [q2, e]
    cases hf : find3 text (text.size + 1 - s) s with
    | none =>
      dsimp only
      rw [← hm]
      exact ⟨1, _, by lia, .one rfl rfl, ⟨rfl, fun a b q => by cases q⟩⟩
    | some p =>
      obtain ⟨h1, h2, h3⟩ := find3_some hf
      dsimp only
      obtain ⟨k, m', hk, hg, he⟩ := att3 (text := text) (st := p) (must := false) (seen := se) (first := true) h1 h2
      refine ⟨k, m', hk, ?_, he⟩
      have q3 : M.attemptAt { m with mustAdvance := false, seen := se } p true = mm C3 text p p p 10 true false [fr0 10 p true] 1 none se := by rw [← hm]; rfl
      rw [q3]; exact hg
end Mine
end
-- part Re2
section
open PySem PySem.W PySem.Calls PyProof.Rows
namespace Mine

theorem slot_pat_sub : Slot "re.Pattern" "sub" "re.Pattern.sub" :=
  .of (owner := "re.Pattern") (n := "sub") (by rw [typeLookup_type, builtinLookup_eq_fast]; kernel_rfl) (by decide +kernel) (by decide +kernel) (by decide +kernel)
    (by first | exact .inl (by decide +kernel) | exact .inr (by decide +kernel)) (by rw [isSubtype_type]; kernel_rfl)
theorem type_pat_sub : typeOf (.builtin "re.Pattern.sub") = pure (.type "method_descriptor") := by show builtinType _ = _; rw [builtinType_eq_fast]; kernel_rfl
theorem entry_pat_sub : entryFor table "re.Pattern.sub" = some Builtin.«re.Pattern.sub» := entryFor_of_tree (by kernel_rfl)
theorem entry_pat_loop : entryFor table "re.Pattern.sub.loop" = some Builtin.«re.Pattern.sub.loop» := entryFor_of_tree (by kernel_rfl)
theorem plain_pat : PlainAttrs "re.Pattern" :=
  ⟨⟨"object.__getattribute__", by rw [typeLookup_type, builtinLookup_eq_fast]; kernel_rfl, by decide +kernel⟩, by rw [typeLookup_type, builtinLookup_eq_fast]; kernel_rfl⟩
theorem sig_pat : Manifest.signature? "re.Pattern.sub" = some { machinery := .keywords, full := "Pattern.sub", short := "sub", receiver := .self, params := [{ name := "repl", kind := .posOrKw, required := true }, { name := "string", kind := .posOrKw, required := true }, { name := "count", kind := .posOrKw, required := false }] } := by kernel_rfl
theorem args_pat_sub (a b c : Value) : argsOk "re.Pattern.sub" ⟨[a, b, c], []⟩ := by
  unfold argsOk; rw [sig_pat]; kernel_rfl
theorem str_call_none : typeLookup (.type "str") "__call__" = pure none := by rw [typeLookup_type, builtinLookup_eq_fast]; kernel_rfl
theorem bytes_call_none : typeLookup (.type "bytes") "__call__" = pure none := by rw [typeLookup_type, builtinLookup_eq_fast]; kernel_rfl

open PySem.Builtin PySem.Builtin.Re
section
variable {M : Model} {A : Around} {E : Value → Shared → Prop} {s : Shared}

theorem goes_le {k n : Nat} {m m' : Sre.M} (hg : Goes k m m') (ho : m'.outcome.isSome = true) (h : k ≤ n) : Sre.M.runFor n m = m' := by
  have e : n = k + (n - k) := by omega
  rw [e, runFor_add, hg, runFor_done ho]
theorem reDrive_wp {m' : Sre.M} {Q : Sre.M → Shared → Prop} (ho : m'.outcome.isSome = true) (h : Q m' s) : ∀ {turns : Nat} {k : Nat} {m : Sre.M}, Goes k m m' → k ≤ 4 * turns → 1 ≤ turns → wpAny M A (reDrive turns m) Q E s
  | 0, _, _, _, _, h1 => by omega
  | t + 1, k, m, hg, hk, _ => by
    rw [reDrive]
    show wpAny M A (if (Sre.M.runFor 4 m).outcome.isSome = true then pure (Sre.M.runFor 4 m) else _) Q E s
    by_cases h4 : k ≤ 4
    · rw [goes_le hg ho h4, if_pos ho]; exact wpAny_pure h
    · split
      · rename_i hd
        have e : k = 4 + (k - 4) := by omega
        have : m' = Sre.M.runFor 4 m := by rw [← hg, e, runFor_add, runFor_done hd]
        rw [← this]; exact wpAny_pure h
      · have hg' : Goes (k - 4) (Sre.M.runFor 4 m) m' := by
          unfold Goes
          rw [← runFor_add, show 4 + (k - 4) = k by omega]; exact hg
        exact wpAny_bind (wpAny_rule (reDrive_wp ho h hg' (by omega) (by omega)))

theorem rules_wp {α : Type} (p : α → Bool) (f : α → String) (l : List α) {Q : PUnit → Shared → Prop} (h : Q ⟨⟩ s) :
    wpAny M A (forIn l PUnit.unit fun i _ => do if p i = true then rule (f i); pure (ForInStep.yield PUnit.unit) else pure (ForInStep.yield PUnit.unit)) Q E s := by
  refine wpAny_forIn_list _ (fun _ _ s' => s' = s) Q (fun x rest b s' hs => ?_) (fun b s' hs => by subst hs; exact h) l _ rfl
  subst hs
  split
  · exact wpAny_bind (wpAny_rule (wpAny_pure rfl))
  · exact wpAny_pure rfl

theorem reRun_wp {m m' : Sre.M} {k : Nat} {r : Option (Nat × Nat)} {Q : Option Sre.M → Shared → Prop} (hg : Goes k m m') (hk : k ≤ 2 ^ 60) (he : Ended m' r) (h : Q (if r.isSome then some m' else none) s) : wpAny M A (reRunToEnd m) Q E s := by
  unfold reRunToEnd
  have ho : m'.outcome.isSome = true := by rw [he.out]; rfl
  refine wpAny_bind (reDrive_wp ho ?_ hg (Nat.le_trans hk (by decide)) (by decide))
  refine wpAny_bind (rules_wp _ _ _ ?_)
  rw [he.out]
  cases r with
  | none => exact wpAny_pure h
  | some x => exact wpAny_pure h
end
end Mine
end
-- part Gen0
section
open PySem PySem.W PySem.Calls PyProof.Rows
namespace Mine

section
variable {M : Model} {A : Around} {R : GenEnd} {Y : Protocol} {n : Nat} {s₀ : Shared} {c : Code} {fs : List Frame} {s : Shared} {env : Env}
  {K : Flow → Sem PySem.Fin} {H : Value → Sem PySem.Fin} {gd : Bool → Bool} {lv : List Value → List Value}

/-- a statement without a yield -/
theorem seg_plain {α : Type} {m : Sem α} {K : α → Sem PySem.Fin} (h : wpAny M (A.over c fs) m (fun f s' => Seg M A R Y n s₀ c (K f) fs s') (fun _ _ => False) s) : Seg M A R Y n s₀ c (m.wrap K H gd lv) fs s :=
  seg_wrap (wpAny_mono h (fun _ _ x => x) fun _ _ x => x.elim)

theorem seg_If {test : Expr} {body orelse : List Stmt} {pos : Pos} (h : wpAny M (A.over c fs) (isTrue test env (eval test env)) (fun b s' =>
      if b = true then Seg M A R Y n s₀ c ((execs body env).wrap K H gd lv) fs s' else Seg M A R Y n s₀ c ((execs orelse env).wrap K H gd lv) fs s') (fun _ _ => False) s) :
    Seg M A R Y n s₀ c ((exec (.If test body orelse pos) env).wrap K H gd lv) fs s := by
  show Seg M A R Y n s₀ c (.at pos fun _ => (isTrue test env (eval test env) >>= fun b => if b = true then execs body env else execs orelse env).wrap K H gd lv) fs s
  refine seg_at ?_
  refine seg_bind_wrap (wpAny_mono h (fun b s' hb => ?_) fun _ _ x => x.elim)
  cases b with
  | true => exact hb
  | false => exact hb

theorem seg_For {target iter : Expr} {body orelse : List Stmt} {pos : Pos}
    (h : wpAny M (A.over c fs) (eval iter env) (fun x s₁ => wpAny M (A.over c fs) (pyIter x) (fun it s₂ =>
      ∀ p, Seg M A R Y n s₀ (.forLoop target it body orelse env) (M.den (.forLoop target it body orelse env))
      (.ret (fun r => ((match r with | .ok f => (.pure f : Sem Flow) | .error e => .raise e).onRaise fun (x : Value) => do
        if (← field x 1) == Value.none then unsupported "frame.own-activation:exception-without-traceback"
        setFlight x env.frame).wrap K H gd lv) none (gd false) (lv []) c p [] :: fs) s₂) (fun _ _ => False) s₁) (fun _ _ => False) s)
    (hs : ∀ x, foldedSetIterable iter env x = pure x) :
    Seg M A R Y n s₀ c ((exec (.For target iter body orelse pos) env).wrap K H gd lv) fs s := by
  rw [exec_For]
  refine seg_bind_wrap (wpAny_standAt ?_)
  refine seg_bind_wrap (wpAny_mono h (fun x s₁ h₁ => ?_) fun _ _ x => x.elim)
  refine seg_bind_wrap (wpAny_of_eq (hs x) ?_)
  refine seg_bind_wrap (wpAny_standAt ?_)
  refine seg_bind_wrap (wpAny_holding (wpAny_mono h₁ (fun it s₂ h₂ => ?_) fun _ _ x => x.elim))
  exact seg_call h₂
end

section
variable {prog : Program} {w : World} {A : Around} {R : GenEnd} {Y : Protocol} {n : Nat} {s₀ : Shared} {fs : List Frame} {s : Shared} {env : Env}

noncomputable abbrev kLoop (target : Expr) (it : Value) (body orelse : List Stmt) (env : Env) : Flow → Sem PySem.Fin := fun f => match f with
  | .next | .cont => .pure (.again (.forLoop target it body orelse env))
  | .brk => .pure (.done .next)
  | .ret v => .pure (.done (.ret v))
noncomputable abbrev hLoop (env : Env) : Value → Sem PySem.Fin := fun e => (do noteFrame e env; theTreesLotGoes e : Sem Unit).wrap (fun _ => .raise e) .raise id id

theorem seg_forLoop {target : Expr} {it : Value} {body : List Stmt}
    (h : wpAny (model prog w) (A.over (.forLoop target it body [] env) fs) (pyNext it) (fun r s₁ => match r with
      | none => Seg (model prog w) A R Y n s₀ (.block [] env) (leafOf (.ok .next)) fs s₁
      | some v => wpAny (model prog w) (A.over (.forLoop target it body [] env) fs) (letOwnedTupleGo target it v) (fun _ s₁' =>
          wpAny (model prog w) (A.over (.forLoop target it body [] env) fs) (assign target env v) (fun _ s₂ =>
            Seg (model prog w) A R Y n s₀ (.forLoop target it body [] env) ((execs body env).wrap (kLoop target it body [] env) (hLoop env) id id) fs s₂) (fun _ _ => False) s₁') (fun _ _ => False) s₁) (fun _ _ => False) s) :
    Seg (model prog w) A R Y n s₀ (.forLoop target it body [] env) ((model prog w).den (.forLoop target it body [] env)) fs s := by
  show Seg _ A R Y n s₀ _ ((forTurn target it body [] env).onRaise (fun x => do noteFrame x env; theTreesLotGoes x)) fs s
  unfold forTurn
  rw [Sem.onRaise_eq_wrap]
  refine seg_bind_wrap (wpAny_standAt ?_)
  refine seg_bind_wrap (wpAny_onRaise (wpAny_mono h (fun r s₁ h₁ => ?_) fun _ _ x => x.elim))
  cases r with
  | none =>
    refine seg_again rfl ?_
    exact h₁
  | some v =>
    refine seg_bind_wrap (wpAny_mono h₁ (fun _ s₁' h₁' => ?_) fun _ _ x => x.elim)
    refine seg_bind_wrap (wpAny_mono h₁' (fun _ s₂ h₂ => ?_) fun _ _ x => x.elim)
    rw [Sem.bind_eq_wrap', Sem.wrap_wrap]
    rw [Sem.wrap_congr (execs body env) _ _ (K' := kLoop target it body [] env) (H' := hLoop env) (fun f => by cases f <;> rfl)
        (fun e => by first | exact Sem.bind_eq_wrap _ _ | (show (do noteFrame e env; theTreesLotGoes e : Sem Unit).bind (fun _ => .raise e) = _; rw [Sem.bind_eq_wrap]))]
    exact h₂
end
end Mine
end
section
local macro_rules | `(tactic| omega) => `(tactic| lia)
-- part Re3
section
open PySem PySem.W PySem.Calls PyProof.Rows
namespace Mine
open PySem.Builtin PySem.Builtin.Re

noncomputable abbrev mkS (l : List Nat) : Str := ⟨l.toArray⟩

structure PatAt (h : Heap) (P C : Addr) (code : Array Nat) (kind : Nat) : Prop where
  pat : ∃ a b t0 t1, h.get? P = some { cls := .type "re.Pattern", data := .fields #[a, b, .int 0 t0, .none, .none, .ref C, .int kind t1] }
  code : ∃ vs n, h.get? C = some { cls := .type "tuple", data := .seq vs n } ∧ (vs.map reRawOf).map Int.toNat = code
theorem PatAt.keeps {h h' : Heap} {P C : Addr} {code : Array Nat} {kind : Nat} (x : PatAt h P C code kind) (k : ∀ b o, h.get? b = some o → h'.get? b = some o) : PatAt h' P C code kind :=
  ⟨let ⟨a, b, t0, t1, e⟩ := x.pat; ⟨a, b, t0, t1, k _ _ e⟩, let ⟨vs, n, e, r⟩ := x.code; ⟨vs, n, k _ _ e, r⟩⟩

/-- what a search must do -/
structure Finds (code text : Array Nat) (find : Nat → Option (Nat × Nat)) : Prop where
  run : ∀ s must, s ≤ text.size → ∃ k m', k ≤ 2 ^ 60 ∧ Goes k (Sre.forSearch code text 0 s text.size must) m' ∧ Ended m' (find s)
  ok : ∀ s a b, find s = some (a, b) → s ≤ a ∧ a < b ∧ b ≤ text.size

noncomputable def pcs (find : Nat → Option (Nat × Nat)) (text : Array Nat) (r : Array Nat) : Nat → Nat → List (Array Nat)
  | 0, _ => []
  | n + 1, st => match find st with
    | some (a, b) => (if st < a then [text.extract st a] else []) ++ r :: pcs find text r n b
    | none => if st < text.size then [text.extract st text.size] else []

section
variable {M : Model} {A : Around} {E : Value → Shared → Prop} {s : Shared} {P C : Addr} {code : Array Nat}
theorem whole_str {x : Str} {t : Tok} {Q : ReTarget → Shared → Prop} (hP : PatAt s.heap P C code 0) (h : Q { pattern := .ref P, string := .str x t, code := code, text := x.cps, kind := 0, groups := 0, pos := 0, lim := x.cps.size } s) :
    wpAny M A (reWholeTarget (.ref P) (.str x t)) Q E s := by
  obtain ⟨⟨a, b, t0, t1, e1⟩, vs, n, e2, rfl⟩ := hP
  unfold reWholeTarget
  refine wpAny_bind (wpAny_fieldsOf e1 rfl ?_)
  refine wpAny_bind (m := reTextOf (.str x t)) (wpAny_pure ?_)
  refine wpAny_bind (m := reNoCollectionInside _ _) (wpAny_pure ?_)
  refine wpAny_bind (m := reRawItems (.ref C)) (wpAny_bind (wpAny_seqItems e2 rfl (wpAny_pure ?_)))
  exact wpAny_pure h

end

section
variable {prog : Program} {w : World} {A : Around} {R : Result → Shared → Prop} {P C : Addr} {code : Array Nat}

noncomputable def lens (l : List (Str × Tok)) : Nat := (l.map fun p => p.1.length).sum
theorem lens_append (l l' : List (Str × Tok)) : lens (l ++ l') = lens l + lens l' := by simp [lens]

theorem listPush {s : Shared} {l : Addr} {items : Array Value} {v : Value} {M : Model} {E : Value → Shared → Prop} {Q : Unit → Shared → Prop} (hl : s.heap.IsList l items) (hz : items.size ≤ 2000000)
    (h : ∀ h', h'.IsList l (items.push v) → Heap.SameBut l s.heap h' → Q () { s with heap := h' }) : wpAny M A (updateSeq l (·.push v)) Q E s := by
  obtain ⟨o, ho, hc, n, hd⟩ := id hl
  obtain ⟨n', hd'⟩ := Obj.data_mapSeq hd (·.push v)
  refine wpAny_updateSeq ho hd (h _ ⟨_, Heap.get?_update_self _ ho (Obj.isFreed_of_seq hd'), (Obj.cls_mapSeq ..).trans hc, n', hd'⟩ (Heap.SameBut.update ..)) (by rw [sizeLine_eq]; omega) (by rw [sizeLine_eq]; simp; omega)

noncomputable abbrev loopArgs (P : Addr) (x : Value) (r : Value) (cnt : Int) (st : Nat) (must : Bool) (l : Addr) : Args :=
  ⟨[.ref P, x, r, rawInt 0, rawInt 0, rawInt cnt, rawInt st, rawInt st, .bool must, .ref l, .bool false], []⟩

theorem plain_loop : plainId "re.Pattern.sub.loop" = true := by decide +kernel

theorem same_pat {h h' : Heap} {l : Addr} {kind : Nat} (hP : PatAt h P C code kind) (h1 : P ≠ l) (h2 : C ≠ l) (hs : Heap.SameBut l h h') : PatAt h' P C code kind :=
  ⟨let ⟨a, b, t0, t1, e⟩ := hP.pat; ⟨a, b, t0, t1, (hs.2 _ h1).trans e⟩, let ⟨vs, n, e, r⟩ := hP.code; ⟨vs, n, (hs.2 _ h2).trans e, r⟩⟩

noncomputable def strL (l : List (Array Nat)) : List Str := l.map fun a => ⟨a⟩

end
section
namespace kloop_str
noncomputable abbrev VK := (Program) × (World) × (Around) × (Result → Shared → Prop) × (Addr) × (Addr) × (Array Nat) × (Str) × (Str) × (Tok) × (Tok) × (Addr)
noncomputable def PK (v : VK) : Prop :=
  (fun (prog : Program) (w : World) (A : Around) (R : Result → Shared → Prop) (P : Addr) (C : Addr) (code : Array Nat) (x : Str) (r : Str) (t : Tok) (u : Tok) (l : Addr) =>
  ∀ (find : Nat → Option (Nat × Nat)) (hF : Finds code x.cps find) (hr : r.length ≤ 2) (h1 : P ≠ l) (h2 : C ≠ l), ∀ (n st : Nat) (must : Bool) (cnt : Int) (ps : List (Str × Tok)) (s : Shared), x.cps.size - st < n → st ≤ x.cps.size → s.heap.IsList l (strValues ps).toArray → PatAt s.heap P C code 0 →
      lens ps + 3 * (x.cps.size - st) ≤ 1000000 → ps.length + 3 * (x.cps.size - st) ≤ 1000000 →
      (∀ h' tk t' S, Heap.SameBut l s.heap h' → S = Txt.join ⟨#[]⟩ (ps.map (·.1) ++ strL (pcs find x.cps r.cps n st)) → R (.ok (.ret (.str S t'))) { s with heap := h', toks := tk }) →
      codeAny (model prog w) A (.builtin "re.Pattern.sub.loop" (loopArgs P (.str x t) (.str r u) cnt st must l)) R s)
    v.1 v.2.1 v.2.2.1 v.2.2.2.1 v.2.2.2.2.1 v.2.2.2.2.2.1 v.2.2.2.2.2.2.1 v.2.2.2.2.2.2.2.1 v.2.2.2.2.2.2.2.2.1 v.2.2.2.2.2.2.2.2.2.1 v.2.2.2.2.2.2.2.2.2.2.1 v.2.2.2.2.2.2.2.2.2.2.2
@[irreducible] noncomputable def vK : VK := @Classical.epsilon VK ⟨(PySem.Challenge.rw_rs0108_01.row.prog, aW, callerA, fun _ _ => True, 0, 0, #[], ⟨#[]⟩, ⟨#[]⟩, 0, 0, 0)⟩ fun v => ¬ PK v
noncomputable def prog : Program := vK.1
noncomputable def w : World := vK.2.1
noncomputable def A : Around := vK.2.2.1
noncomputable def R : Result → Shared → Prop := vK.2.2.2.1
noncomputable def P : Addr := vK.2.2.2.2.1
noncomputable def C : Addr := vK.2.2.2.2.2.1
noncomputable def code : Array Nat := vK.2.2.2.2.2.2.1
noncomputable def x : Str := vK.2.2.2.2.2.2.2.1
noncomputable def r : Str := vK.2.2.2.2.2.2.2.2.1
noncomputable def t : Tok := vK.2.2.2.2.2.2.2.2.2.1
noncomputable def u : Tok := vK.2.2.2.2.2.2.2.2.2.2.1
noncomputable def l : Addr := vK.2.2.2.2.2.2.2.2.2.2.2
theorem main (find : Nat → Option (Nat × Nat)) (hF : Finds code x.cps find) (hr : r.length ≤ 2) (h1 : P ≠ l) (h2 : C ≠ l) :
    ∀ (n st : Nat) (must : Bool) (cnt : Int) (ps : List (Str × Tok)) (s : Shared), x.cps.size - st < n → st ≤ x.cps.size → s.heap.IsList l (strValues ps).toArray → PatAt s.heap P C code 0 →
      lens ps + 3 * (x.cps.size - st) ≤ 1000000 → ps.length + 3 * (x.cps.size - st) ≤ 1000000 →
      (∀ h' tk t' S, Heap.SameBut l s.heap h' → S = Txt.join ⟨#[]⟩ (ps.map (·.1) ++ strL (pcs find x.cps r.cps n st)) → R (.ok (.ret (.str S t'))) { s with heap := h', toks := tk }) →
      codeAny (model prog w) A (.builtin "re.Pattern.sub.loop" (loopArgs P (.str x t) (.str r u) cnt st must l)) R s := by
  intro n
  induction n with
  | zero => intro st must cnt ps s h; omega
  | succ n ih =>
    intro st must cnt ps s hn hst hl hP hb1 hb2 hR
    refine codeAny_builtin entry_pat_loop ?_
    rw [Around.under_plainId plain_loop]
    unfold Builtin.«re.Pattern.sub.loop»
    refine wpAny_bind (whole_str hP ?_)
    refine wpAny_bind (m := reLiteralCannotBeTurned (.str r u)) (wpAny_pure ?_)
    obtain ⟨k, m', hk, hg, he⟩ := hF.run st must hst
    refine wpAny_bind (m := reNextFound _ st must) (reRun_wp hg hk he ?_)
    cases hf : find st with
    | none =>
      rw [hf] at he
      have fin : ∀ (ps' : List (Str × Tok)) (h' : Heap) (tk : Nat), ps'.map (·.1) = ps.map (·.1) ++ strL (pcs find x.cps r.cps (n + 1) st) → h'.IsList l (strValues ps').toArray → Heap.SameBut l s.heap h' → lens ps' ≤ 1000000 → 
          wpAny (model prog w) A.in1 (do
            let joiner ← reSlice x.cps 0 0 0
            let text ← if ((← seqItems? (.ref l)).getD #[]).isEmpty then pure joiner else call (.builtin (if 0 == 0 then "str.join" else "bytes.join")) [joiner, .ref l]
            if false then ret (← holding [text] do newTuple [text, ← mkInt cnt]) else ret text)
            (fun fin s' => match fin with | .done f => R (.ok f) s' | .again c' => c'.quiet = true ∧ codeAny (model prog w) A c' R s') (fun e s' => R (.error e) s') { s with heap := h', toks := tk } := by
        intro ps' h' tk hps hl' hs' hlen
        refine wpAny_bind (m := reSlice x.cps 0 0 0) (wpAny_mkStr ?_ (by simp [Str.length]))
        obtain ⟨o, ho, hc, n', hd⟩ := id hl'
        refine wpAny_bind (wpAny_seqItems ho hd ?_)
        cases ps' with
        | nil =>
          refine wpAny_bind (m := pure _) (wpAny_pure (wpAny_pure ?_))
          refine hR _ _ _ _ hs' ?_
          rw [← hps, show x.cps.extract 0 0 = #[] by simp]
          rfl
        | cons p ps' =>
          refine wpAny_bind (SC.join hl' hps (joinOk_of ?_) fun t' k => wpAny_pure ?_)
          · rw [← hps]
            have e1 : (List.map (fun x => x.length) (List.map (fun x => x.fst) (p :: ps'))).sum = lens (p :: ps') := by simp [lens, Function.comp_def]
            have e2 : Str.length ⟨x.cps.extract 0 0⟩ = 0 := by simp [Str.length]
            rw [e1, e2]
            omega
          · refine hR _ _ _ _ hs' ?_
            simp
      have hz : (strValues ps).toArray.size ≤ 2000000 := by simp [strValues]; omega
      show wpAny _ _ (if ((st : Nat) : Int).toNat < x.cps.size then _ else _) _ _ s
      rw [Int.toNat_natCast]
      by_cases hlt : st < x.cps.size
      · rw [if_pos hlt]
        refine wpAny_bind (m := reSlice x.cps 0 st x.cps.size) (wpAny_mkStr ?_ (by rw [sizeLine_eq]; simp [Str.length]; omega))
        refine wpAny_bind (listPush hl hz fun h' hl' hs' => ?_)
        refine fin (ps ++ [(⟨x.cps.extract st x.cps.size⟩, s.toks)]) h' _ ?_ ?_ hs' ?_
        · simp [pcs, hf, hlt, strL]
        · simpa [strValues] using hl'
        · rw [lens_append]; simp [lens, Str.length] at *; omega
      · rw [if_neg hlt]
        refine fin ps s.heap s.toks ?_ hl (.refl ..) (by omega)
        simp [pcs, hf, hlt, strL]
    | some ab =>
      obtain ⟨a, b⟩ := ab
      obtain ⟨o1, o2, o3⟩ := hF.ok st a b hf
      rw [hf] at he
      obtain ⟨e1, e2⟩ := he.span a b rfl
      have fin : ∀ (ps' : List (Str × Tok)) (h' : Heap) (tk : Nat), ps'.map (·.1) = ps.map (·.1) ++ strL (if st < a then [x.cps.extract st a] else []) → h'.IsList l (strValues ps').toArray → Heap.SameBut l s.heap h' → lens ps' ≤ lens ps + (a - st) → ps'.length ≤ ps.length + 1 →
          wpAny (model prog w) A.in1 (do
            updateSeq l (·.push (.str r u))
            again (.builtin "re.Pattern.sub.loop" ⟨[.ref P, .str x t, .str r u, rawInt 0, rawInt 0, rawInt (cnt + 1), rawInt m'.handed, rawInt m'.handed, .bool (m'.handed == a), .ref l, .bool false], []⟩))
            (fun fin s' => match fin with | .done f => R (.ok f) s' | .again c' => c'.quiet = true ∧ codeAny (model prog w) A c' R s') (fun e s' => R (.error e) s') { s with heap := h', toks := tk } := by
        intro ps' h' tk hps hl' hs' hlen hlen2
        have hz : (strValues ps').toArray.size ≤ 2000000 := by simp [strValues]; omega
        refine wpAny_bind (listPush hl' hz fun h2' hl2 hs2 => wpAny_pure ⟨plainId_quiet plain_loop _, ?_⟩)
        rw [e2]
        have hs3 := hs'.trans hs2
        refine ih b _ (cnt + 1) (ps' ++ [(r, u)]) { s with heap := h2', toks := tk } (by omega) o3 (by simpa [strValues] using hl2) (same_pat hP h1 h2 hs3) ?_ ?_ ?_
        · rw [lens_append]; simp [lens] at *; omega
        · simp; omega
        · intro h3' tk3 t' S hs4 hS
          refine hR _ _ _ _ (hs3.trans hs4) ?_
          rw [hS]
          simp [pcs, hf, hps, strL]
      show wpAny _ _ (if ((st : Nat) : Int).toNat < m'.start then _ else _) _ _ s
      rw [Int.toNat_natCast, e1]
      have hz : (strValues ps).toArray.size ≤ 2000000 := by simp [strValues]; omega
      by_cases hlt : st < a
      · rw [if_pos hlt]
        refine wpAny_bind (m := reSlice x.cps 0 st a) (wpAny_mkStr ?_ (by rw [sizeLine_eq]; simp [Str.length]; omega))
        refine wpAny_bind (listPush hl hz fun h' hl' hs' => ?_)
        refine fin (ps ++ [(⟨x.cps.extract st a⟩, s.toks)]) h' _ ?_ ?_ hs' ?_ (by simp)
        · simp [hlt, strL]
        · simpa [strValues] using hl'
        · rw [lens_append]; simp [lens, Str.length] at *; omega
      · rw [if_neg hlt]
        refine fin ps s.heap s.toks ?_ hl (.refl ..) (by omega) (by omega)
        simp [hlt, strL]
theorem all (v : VK) : PK v := byEps (v0 := vK) (by unfold vK; rfl) main v
end kloop_str
theorem loop_str {prog : Program} {w : World} {A : Around} {R : Result → Shared → Prop} {P : Addr} {C : Addr} {code : Array Nat} {x r : Str} {t u : Tok} {find : Nat → Option (Nat × Nat)} (hF : Finds code x.cps find) (hr : r.length ≤ 2) {l : Addr} (h1 : P ≠ l) (h2 : C ≠ l) :
    ∀ (n st : Nat) (must : Bool) (cnt : Int) (ps : List (Str × Tok)) (s : Shared), x.cps.size - st < n → st ≤ x.cps.size → s.heap.IsList l (strValues ps).toArray → PatAt s.heap P C code 0 →
      lens ps + 3 * (x.cps.size - st) ≤ 1000000 → ps.length + 3 * (x.cps.size - st) ≤ 1000000 →
      (∀ h' tk t' S, Heap.SameBut l s.heap h' → S = Txt.join ⟨#[]⟩ (ps.map (·.1) ++ strL (pcs find x.cps r.cps n st)) → R (.ok (.ret (.str S t'))) { s with heap := h', toks := tk }) →
      codeAny (model prog w) A (.builtin "re.Pattern.sub.loop" (loopArgs P (.str x t) (.str r u) cnt st must l)) R s := kloop_str.all (prog, w, A, R, P, C, code, x, r, t, u, l) find hF hr h1 h2
end
section
variable {prog : Program} {w : World} {A : Around} {R : Result → Shared → Prop} {P C : Addr} {code : Array Nat}
theorem again_call {id : String} {b : Builtin} {args : List Value} {T : String} {name : Str} {self : Value} {E : Value → Shared → Prop} {s : Shared} {Q : Value → Shared → Prop} (h : Slot T name id) (hT : s.TypeIs self T)
    (hb : entryFor table id = some b) (ha : argsOk id ⟨self :: args, []⟩)
    (hc : wpAny (model prog w) A.in1 (b ⟨self :: args, []⟩) (fun fin s' => ∃ c', fin = .again c' ∧ c'.quiet = true ∧ codeAny (model prog w) A c' (fun r s' => match r with | .ok (.ret v) => Q v s' | .ok _ => False | .error e => E e s') s') E s) :
    wpAny (model prog w) A (call (.builtin id) (self :: args)) Q E s := by
  refine wpAny_call (codeAny_call_builtin h.plain hb (h.check _ _ _ _ _ _ _ _ hT ha (wpAny_mono hc (fun fin s' h' => ?_) fun _ _ h' => h')))
  obtain ⟨c', rfl, hv⟩ := h'; exact hv

end
section
namespace ksub_str
noncomputable abbrev VK := (Program) × (World) × (Around) × (Addr) × (Addr) × (Array Nat) × (Str) × (Str) × (Tok) × (Tok) × (Value → Shared → Prop) × (Shared) × (Value → Shared → Prop)
noncomputable def PK (v : VK) : Prop :=
  (fun (prog : Program) (w : World) (A : Around) (P : Addr) (C : Addr) (code : Array Nat) (x : Str) (r : Str) (t : Tok) (u : Tok) (E : Value → Shared → Prop) (s : Shared) (Q : Value → Shared → Prop) =>
  ∀ (find : Nat → Option (Nat × Nat)) (hP : PatAt s.heap P C code 0) (hF : Finds code x.cps find) (hr : r.length ≤ 2) (hx : x.cps.size ≤ 300000) (hb : r.cps.contains 92 = false) (h : ∀ h' tk t', (∀ b o, s.heap.get? b = some o → h'.get? b = some o) → Q (.str (Txt.join ⟨#[]⟩ (strL (pcs find x.cps r.cps (x.cps.size + 1) 0))) t') { s with heap := h', toks := tk }), wpAny (model prog w) A (call (.builtin "re.Pattern.sub") [.ref P, .str r u, .str x t]) Q E s)
    v.1 v.2.1 v.2.2.1 v.2.2.2.1 v.2.2.2.2.1 v.2.2.2.2.2.1 v.2.2.2.2.2.2.1 v.2.2.2.2.2.2.2.1 v.2.2.2.2.2.2.2.2.1 v.2.2.2.2.2.2.2.2.2.1 v.2.2.2.2.2.2.2.2.2.2.1 v.2.2.2.2.2.2.2.2.2.2.2.1 v.2.2.2.2.2.2.2.2.2.2.2.2
@[irreducible] noncomputable def vK : VK := @Classical.epsilon VK ⟨(PySem.Challenge.rw_rs0108_01.row.prog, aW, callerA, 0, 0, #[], ⟨#[]⟩, ⟨#[]⟩, 0, 0, fun _ _ => True, {}, fun _ _ => True)⟩ fun v => ¬ PK v
noncomputable def prog : Program := vK.1
noncomputable def w : World := vK.2.1
noncomputable def A : Around := vK.2.2.1
noncomputable def P : Addr := vK.2.2.2.1
noncomputable def C : Addr := vK.2.2.2.2.1
noncomputable def code : Array Nat := vK.2.2.2.2.2.1
noncomputable def x : Str := vK.2.2.2.2.2.2.1
noncomputable def r : Str := vK.2.2.2.2.2.2.2.1
noncomputable def t : Tok := vK.2.2.2.2.2.2.2.2.1
noncomputable def u : Tok := vK.2.2.2.2.2.2.2.2.2.1
noncomputable def E : Value → Shared → Prop := vK.2.2.2.2.2.2.2.2.2.2.1
noncomputable def s : Shared := vK.2.2.2.2.2.2.2.2.2.2.2.1
noncomputable def Q : Value → Shared → Prop := vK.2.2.2.2.2.2.2.2.2.2.2.2
theorem main (find : Nat → Option (Nat × Nat)) (hP : PatAt s.heap P C code 0) (hF : Finds code x.cps find) (hr : r.length ≤ 2) (hx : x.cps.size ≤ 300000) (hb : r.cps.contains 92 = false) (h : ∀ h' tk t', (∀ b o, s.heap.get? b = some o → h'.get? b = some o) → Q (.str (Txt.join ⟨#[]⟩ (strL (pcs find x.cps r.cps (x.cps.size + 1) 0))) t') { s with heap := h', toks := tk }) :
    wpAny (model prog w) A (call (.builtin "re.Pattern.sub") [.ref P, .str r u, .str x t]) Q E s := by
  obtain ⟨a0, b0, t0, t1, e1⟩ := hP.pat
  obtain ⟨vs, n0, e2, _⟩ := hP.code
  refine again_call slot_pat_sub ⟨_, e1, rfl⟩ entry_pat_sub (args_pat_sub _ _ _) ?_
  unfold Builtin.«re.Pattern.sub» reSubstitute
  refine wpAny_bind (m := reNamed "re.Pattern.sub" "sub" ["repl", "string", "count"] 2 [.str r u, .str x t] []) (wpAny_of_eq (a := [some (.str r u), some (.str x t), none]) rfl ?_)
  refine wpAny_bind (m := pure (0 : Int)) (wpAny_pure ?_)
  refine wpAny_bind (wpAny_specialOf (typeIs_str _ _ _) str_call_none ?_)
  refine wpAny_bind (m := asStr? (.str r u)) (wpAny_pure ?_)
  show wpAny _ _ ((pure !r.cps.contains 92) >>= _) _ _ s
  rw [hb]
  refine wpAny_bind (wpAny_pure ?_)
  refine wpAny_bind (m := pure (Value.str r u, (0 : Int))) (wpAny_pure ?_)
  refine wpAny_bind (wpAny_holding (whole_str hP ?_))
  refine wpAny_bind (wpAny_newList (wpAny_pure ⟨_, rfl, plainId_quiet plain_loop _, ?_⟩))
  have k : ∀ b o, s.heap.get? b = some o → (s.heap.push { cls := .type "list", data := .seq [].toArray }).get? b = some o := fun b o e => Heap.get?_push_of_some _ e
  refine loop_str (R := _) hF hr (l := s.heap.objs.size) (Nat.ne_of_lt (Heap.lt_size e1)) (Nat.ne_of_lt (Heap.lt_size e2)) (x.cps.size + 1) 0 false 0 [] _ (by omega) (by omega) ⟨_, Heap.get?_push_size _ rfl, rfl, _, rfl⟩ (hP.keeps k) (by simp [lens]; omega) (by simp; omega) ?_
  intro h' tk t' S hs hS
  subst hS
  exact h h' tk t' fun b o e => (hs.2 b (Nat.ne_of_lt (Heap.lt_size e))).trans (k b o e)
theorem all (v : VK) : PK v := byEps (v0 := vK) (by unfold vK; rfl) main v
end ksub_str
theorem sub_str {prog : Program} {w : World} {A : Around} {P : Addr} {C : Addr} {code : Array Nat} {x r : Str} {t u : Tok} {find : Nat → Option (Nat × Nat)} {E : Value → Shared → Prop} {s : Shared} {Q : Value → Shared → Prop} (hP : PatAt s.heap P C code 0) (hF : Finds code x.cps find) (hr : r.length ≤ 2) (hx : x.cps.size ≤ 300000) (hb : r.cps.contains 92 = false) (h : ∀ h' tk t', (∀ b o, s.heap.get? b = some o → h'.get? b = some o) → Q (.str (Txt.join ⟨#[]⟩ (strL (pcs find x.cps r.cps (x.cps.size + 1) 0))) t') { s with heap := h', toks := tk }) :
    wpAny (model prog w) A (call (.builtin "re.Pattern.sub") [.ref P, .str r u, .str x t]) Q E s := ksub_str.all (prog, w, A, P, C, code, x, r, t, u, E, s, Q) find hP hF hr hx hb h
end
end Mine
end
-- part Re4
section
open PySem PySem.W PySem.Calls PyProof.Rows
namespace Mine
open PySem.Builtin PySem.Builtin.Re

theorem slot_bytes_join : Slot "bytes" "join" "bytes.join" :=
  .of (owner := "bytes") (n := "join") (by rw [typeLookup_type, builtinLookup_eq_fast]; kernel_rfl) (by decide +kernel) (by decide +kernel) (by decide +kernel)
    (by first | exact .inl (by decide +kernel) | exact .inr (by decide +kernel)) (by rw [isSubtype_type]; kernel_rfl)
theorem entry_bytes_join : entryFor table "bytes.join" = some Builtin.«bytes.join» := entryFor_of_tree (by kernel_rfl)
theorem args_bytes_join (a b : Value) : argsOk "bytes.join" ⟨[a, b], []⟩ := by unfold argsOk; kernel_rfl

noncomputable def byVals (l : List (Array UInt8 × Tok)) : List Value := l.map fun p => .bytes p.1 p.2
noncomputable def blens (l : List (Array UInt8 × Tok)) : Nat := (l.map fun p => p.1.size).sum
theorem blens_append (l l' : List (Array UInt8 × Tok)) : blens (l ++ l') = blens l + blens l' := by simp [blens]

theorem take_eq {id : String} {b : Array UInt8} {t : Tok} : Bytes.takeBufferQuiet? id (.bytes b t) 0 = pure (some (b, none)) := by
  have h1 : Bytes.takeBuffer? id (.bytes b t) 0 = pure (some (b, none)) := by
    unfold Bytes.takeBuffer?
    rw [KBy.special_eq KBy.look_buffer, KBy.own_buffer, show ((0 : Int) == Bytes.fullReadOnly) = false by decide, KBy.buffer_eq]
    rfl
  unfold Bytes.takeBufferQuiet?
  rw [h1]; rfl

section
variable {prog : Program} {w : World} {A : Around} {E : Value → Shared → Prop} {s : Shared}
theorem joinLetGo_wp {M : Model} {Q : Unit → Shared → Prop} {keep : List Value} (h : Q () s) : ∀ (l : List (Value × Option Value)), (∀ p ∈ l, p.2 = none) → wpAny M A (Bytes.joinLetGo l keep) Q E s
  | [], _ => wpAny_pure h
  | (x, none) :: r, hl => by
    rw [Bytes.joinLetGo]
    · exact wpAny_bind (wpAny_letGo (joinLetGo_wp h r fun p hp => hl p (List.mem_cons_of_mem _ hp)))
    · nofun
  | (x, some y) :: r, hl => by have := hl _ List.mem_cons_self; cases this

end
section
namespace kjoin_bytes
noncomputable abbrev VK := (Program) × (World) × (Around) × (Value → Shared → Prop) × (Shared) × (Addr) × (Array UInt8) × (Tok) × (Value → Shared → Prop)
noncomputable def PK (v : VK) : Prop :=
  (fun (prog : Program) (w : World) (A : Around) (E : Value → Shared → Prop) (s : Shared) (D : Addr) (sep : Array UInt8) (t : Tok) (Q : Value → Shared → Prop) =>
  ∀ (l : List (Array UInt8 × Tok)) (hl : s.heap.IsList D (byVals l).toArray) (hb : blens l + sep.size * l.length ≤ 16777216) (hq : ∀ t' k, Q (.bytes (Bytes.joined sep (l.map (·.1))) t') { s with toks := k }), wpAny (model prog w) A (call (.builtin "bytes.join") [.bytes sep t, .ref D]) Q E s)
    v.1 v.2.1 v.2.2.1 v.2.2.2.1 v.2.2.2.2.1 v.2.2.2.2.2.1 v.2.2.2.2.2.2.1 v.2.2.2.2.2.2.2.1 v.2.2.2.2.2.2.2.2
@[irreducible] noncomputable def vK : VK := @Classical.epsilon VK ⟨(PySem.Challenge.rw_rs0108_01.row.prog, aW, callerA, fun _ _ => True, {}, 0, #[], 0, fun _ _ => True)⟩ fun v => ¬ PK v
noncomputable def prog : Program := vK.1
noncomputable def w : World := vK.2.1
noncomputable def A : Around := vK.2.2.1
noncomputable def E : Value → Shared → Prop := vK.2.2.2.1
noncomputable def s : Shared := vK.2.2.2.2.1
noncomputable def D : Addr := vK.2.2.2.2.2.1
noncomputable def sep : Array UInt8 := vK.2.2.2.2.2.2.1
noncomputable def t : Tok := vK.2.2.2.2.2.2.2.1
noncomputable def Q : Value → Shared → Prop := vK.2.2.2.2.2.2.2.2
theorem main (l : List (Array UInt8 × Tok)) (hl : s.heap.IsList D (byVals l).toArray) (hb : blens l + sep.size * l.length ≤ 16777216) (hq : ∀ t' k, Q (.bytes (Bytes.joined sep (l.map (·.1))) t') { s with toks := k }) :
    wpAny (model prog w) A (call (.builtin "bytes.join") [.bytes sep t, .ref D]) Q E s := by
  refine wpAny_call_entry slot_bytes_join (typeIs_bytes _ _ _) entry_bytes_join ?_ (args_bytes_join _ _)
  obtain ⟨o, ho, hc, n, hd⟩ := id hl
  show wpAny _ _ (Bytes.joinM .bytes ⟨[.bytes sep t, .ref D], []⟩) _ _ s
  unfold Bytes.joinM
  refine wpAny_bind (m := selfAndOne _ _) (wpAny_pure ?_)
  refine wpAny_bind (m := Bytes.joinItems (.ref D)) ?_
  unfold Bytes.joinItems
  refine wpAny_bind (wpAny_typeOf hl.typeIs ?_)
  refine wpAny_pure ?_
  refine wpAny_bind (wpAny_seqItems ho hd ?_)
  by_cases h1 : ∃ p, l = [p]
  · obtain ⟨p, rfl⟩ := h1
    refine wpAny_bind (wpAny_typeOf (typeIs_bytes s p.1 p.2) ?_)
    refine wpAny_bind (wpAny_rule (wpAny_pure ⟨_, rfl, ?_⟩))
    have h := hq p.2 s.toks
    have e : Bytes.joined sep ([p].map (·.1)) = p.1 := by simp [Bytes.joined]
    rw [e] at h
    exact h
  · have hne : ¬ (byVals l).toArray.size = 1 := by
      intro e
      simp only [byVals, List.size_toArray, List.length_map] at e
      exact h1 (List.length_eq_one_iff.mp e)
    dsimp only
    rw [if_pos (show (Bytes.Kind.bytes == Bytes.Kind.bytes) = true from rfl)]
    unfold Bytes.joinM.match_1
    rw [dif_neg hne]
    · refine wpAny_bind ?_
      rw [Std.Legacy.Range.forIn_eq_forIn_range']
      let st (k : Nat) : Array (Array UInt8) × List (Value × Option Value) := (((l.take k).map (·.1)).toArray, (l.take k).map fun p => (Value.bytes p.1 p.2, none))
      have hsz : (byVals l).toArray.size = l.length := by simp [byVals]
      have fin : ∀ S : Array (Array UInt8) × List (Value × Option Value), S = st l.length → wpAny (model prog w) A.in1 (do
          let sep' ← Bytes.payload (Value.bytes sep t)
          if Bytes.tooLong (Array.foldl (fun x1 x2 => x1 + x2.size) (sep'.size * (S.1.size - 1)) S.1) = true then do
            let __r ← (unsupported (toString (toString Bytes.Kind.bytes.name ++ toString ".join") ++ toString ":memory") : Sem Unit)
            let result ← Bytes.Kind.bytes.new (Bytes.joined sep' S.1.toList)
            holding (result :: List.flatMap (fun x => match x with | (y, u) => y :: u.toList) S.2) point
            Bytes.joinLetGo S.2 [result]
            ret result
          else do
            let result ← Bytes.Kind.bytes.new (Bytes.joined sep' S.1.toList)
            holding (result :: List.flatMap (fun x => match x with | (y, u) => y :: u.toList) S.2) point
            Bytes.joinLetGo S.2 [result]
            ret result) (fun fin s' => ∃ v, fin = .done (.ret v) ∧ Q v s') E s := by
        intro S hS
        subst hS
        refine wpAny_bind (m := Bytes.payload (Value.bytes sep t)) (wpAny_pure ?_)
        have hlen : ∀ (xs : List (Array UInt8 × Tok)) (n : Nat), (xs.map (·.1)).foldl (fun x1 x2 => x1 + x2.size) n = n + blens xs := by
          intro xs
          induction xs with
          | nil => intro n; simp [blens]
          | cons x r ih => intro n; rw [List.map_cons, List.foldl_cons, ih]; simp [blens]; omega
        have hmul : sep.size * (l.length - 1) ≤ sep.size * l.length := Nat.mul_le_mul_left _ (Nat.sub_le _ _)
        have hj : Bytes.tooLong (Array.foldl (fun x1 x2 => x1 + x2.size) (sep.size * ((st l.length).1.size - 1)) (st l.length).1) = false := by
          apply KBy.tooLong_not
          simp only [st, List.take_length, List.size_toArray, List.length_map, List.foldl_toArray']
          rw [hlen]; omega
        rw [if_neg (by rw [hj]; exact Bool.false_ne_true)]
        have hz : (Bytes.joined sep (st l.length).1.toList).size ≤ sizeLine := by
          rw [sizeLine_eq]
          have gen : ∀ (xs : List (Array UInt8 × Tok)) (k : Nat) (out : Array UInt8), ((xs.map (·.1)).zipIdx k |>.foldl (fun out (p, i) => (if i > 0 then out ++ sep else out) ++ p) out).size ≤ out.size + blens xs + sep.size * xs.length := by
            intro xs
            induction xs with
            | nil => intro k out; simp [blens]
            | cons x r ih =>
              intro k out
              rw [List.map_cons, List.zipIdx_cons, List.foldl_cons]
              refine Nat.le_trans (ih _ _) ?_
              have e : sep.size * (x :: r).length = sep.size * r.length + sep.size := by rw [List.length_cons, Nat.mul_add, Nat.mul_one]
              rw [e]
              dsimp only
              by_cases hk0 : k > 0
              · rw [if_pos hk0]; simp [blens]; omega
              · rw [if_neg hk0]; simp [blens]; omega
          have := gen l 0 #[]
          simp only [st, List.take_length, Bytes.joined]
          simp at this ⊢
          omega
        refine wpAny_bind (m := Bytes.Kind.bytes.new _) (wpAny_mkBytes ?_ hz)
        refine wpAny_bind (wpAny_holding (wpAny_point ?_))
        refine wpAny_bind (joinLetGo_wp ?_ _ (fun p hp => ?_))
        · refine wpAny_pure ⟨_, rfl, ?_⟩
          have h := hq s.toks (s.toks + 1)
          have e : (st l.length).1.toList = l.map (·.1) := by simp [st]
          rw [e]; exact h
        · simp only [st, List.take_length, List.mem_map] at hp
          obtain ⟨q, _, rfl⟩ := hp; rfl
      refine wpAny_forIn_list _ (fun rest S s' => s' = s ∧ ∃ k, k ≤ l.length ∧ rest = List.range' k (l.length - k) ∧ S = st k) _ (fun i rest S s' hI => ?_) (fun S s' hI => ?_) _ _ ⟨rfl, 0, by omega, ?_, by simp [st]⟩
      · obtain ⟨rfl, k, hk, hr, rfl⟩ := hI
        have hk2 : k < l.length := by
          rcases Nat.lt_or_ge k l.length with h | h
          · exact h
          · rw [show l.length - k = 0 by omega] at hr; cases hr
        rw [show l.length - k = (l.length - (k + 1)) + 1 by omega, List.range'_succ] at hr
        cases hr
        refine wpAny_bind (wpAny_seqItems ho hd ?_)
        have hany : ((st i).2.any fun x => x.1.onHeap) = false := by
          simp only [st, List.any_map, List.any_eq_false]
          intro p _; simp [Value.onHeap]
        have hget : (byVals l).toArray.getD i Value.none = .bytes l[i].1 l[i].2 := by simp [byVals, hk2]
        dsimp only
        rw [hany, if_neg (by decide), hget, take_eq]
        refine wpAny_bind (wpAny_holding (wpAny_pure ?_))
        refine wpAny_bind (wpAny_seqItems ho hd ?_)
        dsimp only
        rw [if_neg (by simp)]
        refine wpAny_pure ⟨rfl, i + 1, by omega, rfl, ?_⟩
        have e : l.take (i + 1) = l.take i ++ [l[i]] := by rw [List.take_add_one, List.getElem?_eq_getElem hk2]; rfl
        show _ = (((l.take (i + 1)).map (·.1)).toArray, (l.take (i + 1)).map fun p => (Value.bytes p.1 p.2, (none : Option Value)))
        rw [e, List.map_append, List.map_append, List.push_toArray]
        rfl
      · obtain ⟨rfl, k, hk, hr, rfl⟩ := hI
        have : l.length - k = 0 := by
          rcases Nat.eq_zero_or_pos (l.length - k) with h | h
          · exact h
          · rw [show l.length - k = (l.length - (k + 1)) + 1 by omega, List.range'_succ] at hr; cases hr
        exact fin _ (by rw [show k = l.length by omega])
      · simp [byVals]
theorem all (v : VK) : PK v := byEps (v0 := vK) (by unfold vK; rfl) main v
end kjoin_bytes
theorem join_bytes {prog : Program} {w : World} {A : Around} {E : Value → Shared → Prop} {s : Shared} {D : Addr} {l : List (Array UInt8 × Tok)} {sep : Array UInt8} {t : Tok} {Q : Value → Shared → Prop} (hl : s.heap.IsList D (byVals l).toArray) (hb : blens l + sep.size * l.length ≤ 16777216) (hq : ∀ t' k, Q (.bytes (Bytes.joined sep (l.map (·.1))) t') { s with toks := k }) :
    wpAny (model prog w) A (call (.builtin "bytes.join") [.bytes sep t, .ref D]) Q E s := kjoin_bytes.all (prog, w, A, E, s, D, sep, t, Q) l hl hb hq
end

section
variable {M : Model} {A : Around} {E : Value → Shared → Prop} {s : Shared} {P C : Addr} {code : Array Nat}
theorem whole_bytes {x : Array UInt8} {t : Tok} {Q : ReTarget → Shared → Prop} (hP : PatAt s.heap P C code 1) (h : Q { pattern := .ref P, string := .bytes x t, code := code, text := x.map (·.toNat), kind := 1, groups := 0, pos := 0, lim := (x.map (·.toNat)).size } s) :
    wpAny M A (reWholeTarget (.ref P) (.bytes x t)) Q E s := by
  obtain ⟨⟨a, b, t0, t1, e1⟩, vs, n, e2, rfl⟩ := hP
  unfold reWholeTarget
  refine wpAny_bind (wpAny_fieldsOf e1 rfl ?_)
  have ht : reTextOf (.bytes x t) = pure (x.map (·.toNat), 1) := by
    unfold reTextOf
    rw [show asStr? (.bytes x t) = pure none from rfl, KBy.quiet_eq]
    rfl
  refine wpAny_bind (wpAny_of_eq ht ?_)
  have hn : reNoCollectionInside (.bytes x t) 1 = pure () := by
    unfold reNoCollectionInside
    rw [KBy.isInstance_eq]
    rfl
  refine wpAny_bind (wpAny_of_eq hn ?_)
  refine wpAny_bind (m := reRawItems (.ref C)) (wpAny_bind (wpAny_seqItems e2 rfl (wpAny_pure ?_)))
  exact wpAny_pure h
theorem turned_bytes {r : Array UInt8} {u : Tok} : reLiteralCannotBeTurned (.bytes r u) = pure () := by
  unfold reLiteralCannotBeTurned
  rw [show asStr? (.bytes r u) = pure none from rfl, KBy.isInstance_eq]
  rfl
end

section
variable {prog : Program} {w : World} {A : Around} {R : Result → Shared → Prop} {P C : Addr} {code : Array Nat}
noncomputable abbrev toBy (a : Array Nat) : Array UInt8 := a.map (·.toUInt8)
noncomputable def byL (l : List (Array Nat)) : List (Array UInt8) := l.map toBy

end
section
namespace kloop_bytes
noncomputable abbrev VK := (Program) × (World) × (Around) × (Result → Shared → Prop) × (Addr) × (Addr) × (Array Nat) × (Array UInt8) × (Array UInt8) × (Array Nat) × (Array Nat) × (Tok) × (Tok) × (Addr)
noncomputable def PK (v : VK) : Prop :=
  (fun (prog : Program) (w : World) (A : Around) (R : Result → Shared → Prop) (P : Addr) (C : Addr) (code : Array Nat) (x : Array UInt8) (r : Array UInt8) (rn : Array Nat) (T : Array Nat) (t : Tok) (u : Tok) (l : Addr) =>
  ∀ (find : Nat → Option (Nat × Nat)) (hT : x.map (·.toNat) = T) (hrn : toBy rn = r) (hF : Finds code T find) (hr : r.size ≤ 2) (h1 : P ≠ l) (h2 : C ≠ l), ∀ (n st : Nat) (must : Bool) (cnt : Int) (ps : List (Array UInt8 × Tok)) (s : Shared), T.size - st < n → st ≤ T.size → s.heap.IsList l (byVals ps).toArray → PatAt s.heap P C code 1 →
      blens ps + 3 * (T.size - st) ≤ 1000000 → ps.length + 3 * (T.size - st) ≤ 1000000 →
      (∀ h' tk t' S, Heap.SameBut l s.heap h' → S = Bytes.joined #[] (ps.map (·.1) ++ byL (pcs find T rn n st)) → R (.ok (.ret (.bytes S t'))) { s with heap := h', toks := tk }) →
      codeAny (model prog w) A (.builtin "re.Pattern.sub.loop" (loopArgs P (.bytes x t) (.bytes r u) cnt st must l)) R s)
    v.1 v.2.1 v.2.2.1 v.2.2.2.1 v.2.2.2.2.1 v.2.2.2.2.2.1 v.2.2.2.2.2.2.1 v.2.2.2.2.2.2.2.1 v.2.2.2.2.2.2.2.2.1 v.2.2.2.2.2.2.2.2.2.1 v.2.2.2.2.2.2.2.2.2.2.1 v.2.2.2.2.2.2.2.2.2.2.2.1 v.2.2.2.2.2.2.2.2.2.2.2.2.1 v.2.2.2.2.2.2.2.2.2.2.2.2.2
@[irreducible] noncomputable def vK : VK := @Classical.epsilon VK ⟨(PySem.Challenge.rw_rs0108_01.row.prog, aW, callerA, fun _ _ => True, 0, 0, #[], #[], #[], #[], #[], 0, 0, 0)⟩ fun v => ¬ PK v
noncomputable def prog : Program := vK.1
noncomputable def w : World := vK.2.1
noncomputable def A : Around := vK.2.2.1
noncomputable def R : Result → Shared → Prop := vK.2.2.2.1
noncomputable def P : Addr := vK.2.2.2.2.1
noncomputable def C : Addr := vK.2.2.2.2.2.1
noncomputable def code : Array Nat := vK.2.2.2.2.2.2.1
noncomputable def x : Array UInt8 := vK.2.2.2.2.2.2.2.1
noncomputable def r : Array UInt8 := vK.2.2.2.2.2.2.2.2.1
noncomputable def rn : Array Nat := vK.2.2.2.2.2.2.2.2.2.1
noncomputable def T : Array Nat := vK.2.2.2.2.2.2.2.2.2.2.1
noncomputable def t : Tok := vK.2.2.2.2.2.2.2.2.2.2.2.1
noncomputable def u : Tok := vK.2.2.2.2.2.2.2.2.2.2.2.2.1
noncomputable def l : Addr := vK.2.2.2.2.2.2.2.2.2.2.2.2.2
theorem main (find : Nat → Option (Nat × Nat)) (hT : x.map (·.toNat) = T) (hrn : toBy rn = r) (hF : Finds code T find) (hr : r.size ≤ 2) (h1 : P ≠ l) (h2 : C ≠ l) :
    ∀ (n st : Nat) (must : Bool) (cnt : Int) (ps : List (Array UInt8 × Tok)) (s : Shared), T.size - st < n → st ≤ T.size → s.heap.IsList l (byVals ps).toArray → PatAt s.heap P C code 1 →
      blens ps + 3 * (T.size - st) ≤ 1000000 → ps.length + 3 * (T.size - st) ≤ 1000000 →
      (∀ h' tk t' S, Heap.SameBut l s.heap h' → S = Bytes.joined #[] (ps.map (·.1) ++ byL (pcs find T rn n st)) → R (.ok (.ret (.bytes S t'))) { s with heap := h', toks := tk }) →
      codeAny (model prog w) A (.builtin "re.Pattern.sub.loop" (loopArgs P (.bytes x t) (.bytes r u) cnt st must l)) R s := by
  intro n
  induction n with
  | zero => intro st must cnt ps s h; omega
  | succ n ih =>
    intro st must cnt ps s hn hst hl hP hb1 hb2 hR
    refine codeAny_builtin entry_pat_loop ?_
    rw [Around.under_plainId plain_loop]
    unfold Builtin.«re.Pattern.sub.loop»
    refine wpAny_bind (whole_bytes hP ?_)
    rw [hT]
    refine wpAny_bind (wpAny_of_eq turned_bytes ?_)
    obtain ⟨k, m', hk, hg, he⟩ := hF.run st must hst
    refine wpAny_bind (m := reNextFound _ st must) (reRun_wp hg hk he ?_)
    cases hf : find st with
    | none =>
      rw [hf] at he
      have fin : ∀ (ps' : List (Array UInt8 × Tok)) (h' : Heap) (tk : Nat), ps'.map (·.1) = ps.map (·.1) ++ byL (pcs find T rn (n + 1) st) → h'.IsList l (byVals ps').toArray → Heap.SameBut l s.heap h' → blens ps' ≤ 1000000 → 
          wpAny (model prog w) A.in1 (do
            let joiner ← reSlice T 1 0 0
            let text ← if ((← seqItems? (.ref l)).getD #[]).isEmpty then pure joiner else call (.builtin (if 1 == 0 then "str.join" else "bytes.join")) [joiner, .ref l]
            if false then ret (← holding [text] do newTuple [text, ← mkInt cnt]) else ret text)
            (fun fin s' => match fin with | .done f => R (.ok f) s' | .again c' => c'.quiet = true ∧ codeAny (model prog w) A c' R s') (fun e s' => R (.error e) s') { s with heap := h', toks := tk } := by
        intro ps' h' tk hps hl' hs' hlen
        refine wpAny_bind (m := reSlice T 1 0 0) (wpAny_mkBytes ?_ (by simp))
        obtain ⟨o, ho, hc, n', hd⟩ := id hl'
        refine wpAny_bind (wpAny_seqItems ho hd ?_)
        have e0 : (T.extract 0 0).map (·.toUInt8) = #[] := by simp
        rw [e0]
        cases ps' with
        | nil =>
          refine wpAny_bind (m := pure _) (wpAny_pure (wpAny_pure ?_))
          refine hR _ _ _ _ hs' ?_
          rw [← hps]
          rfl
        | cons p ps' =>
          refine wpAny_bind (join_bytes hl' (by simp; omega) fun t' k => wpAny_pure ?_)
          rw [hps]
          exact hR _ _ _ _ hs' rfl
      have hz : (byVals ps).toArray.size ≤ 2000000 := by simp [byVals]; omega
      show wpAny _ _ (if ((st : Nat) : Int).toNat < T.size then _ else _) _ _ s
      rw [Int.toNat_natCast]
      by_cases hlt : st < T.size
      · rw [if_pos hlt]
        refine wpAny_bind (m := reSlice T 1 st T.size) (wpAny_mkBytes ?_ (by rw [sizeLine_eq]; simp; omega))
        refine wpAny_bind (listPush hl hz fun h' hl' hs' => ?_)
        refine fin (ps ++ [(toBy (T.extract st T.size), s.toks)]) h' _ ?_ ?_ hs' ?_
        · simp [pcs, hf, hlt, byL]
        · simpa [byVals] using hl'
        · rw [blens_append]; simp [blens] at *; omega
      · rw [if_neg hlt]
        refine fin ps s.heap s.toks ?_ hl (.refl ..) (by omega)
        simp [pcs, hf, hlt, byL]
    | some ab =>
      obtain ⟨a, b⟩ := ab
      obtain ⟨o1, o2, o3⟩ := hF.ok st a b hf
      rw [hf] at he
      obtain ⟨e1, e2⟩ := he.span a b rfl
      have fin : ∀ (ps' : List (Array UInt8 × Tok)) (h' : Heap) (tk : Nat), ps'.map (·.1) = ps.map (·.1) ++ byL (if st < a then [T.extract st a] else []) → h'.IsList l (byVals ps').toArray → Heap.SameBut l s.heap h' → blens ps' ≤ blens ps + (a - st) → ps'.length ≤ ps.length + 1 →
          wpAny (model prog w) A.in1 (do
            updateSeq l (·.push (.bytes r u))
            again (.builtin "re.Pattern.sub.loop" ⟨[.ref P, .bytes x t, .bytes r u, rawInt 0, rawInt 0, rawInt (cnt + 1), rawInt m'.handed, rawInt m'.handed, .bool (m'.handed == a), .ref l, .bool false], []⟩))
            (fun fin s' => match fin with | .done f => R (.ok f) s' | .again c' => c'.quiet = true ∧ codeAny (model prog w) A c' R s') (fun e s' => R (.error e) s') { s with heap := h', toks := tk } := by
        intro ps' h' tk hps hl' hs' hlen hlen2
        have hz : (byVals ps').toArray.size ≤ 2000000 := by simp [byVals]; omega
        refine wpAny_bind (listPush hl' hz fun h2' hl2 hs2 => wpAny_pure ⟨plainId_quiet plain_loop _, ?_⟩)
        rw [e2]
        have hs3 := hs'.trans hs2
        refine ih b _ (cnt + 1) (ps' ++ [(r, u)]) { s with heap := h2', toks := tk } (by omega) o3 (by simpa [byVals] using hl2) (same_pat hP h1 h2 hs3) ?_ ?_ ?_
        · rw [blens_append]; simp [blens] at *; omega
        · simp; omega
        · intro h3' tk3 t' S hs4 hS
          refine hR _ _ _ _ (hs3.trans hs4) ?_
          rw [hS]
          simp [pcs, hf, hps, byL, hrn]
      show wpAny _ _ (if ((st : Nat) : Int).toNat < m'.start then _ else _) _ _ s
      rw [Int.toNat_natCast, e1]
      have hz : (byVals ps).toArray.size ≤ 2000000 := by simp [byVals]; omega
      by_cases hlt : st < a
      · rw [if_pos hlt]
        refine wpAny_bind (m := reSlice T 1 st a) (wpAny_mkBytes ?_ (by rw [sizeLine_eq]; simp; omega))
        refine wpAny_bind (listPush hl hz fun h' hl' hs' => ?_)
        refine fin (ps ++ [(toBy (T.extract st a), s.toks)]) h' _ ?_ ?_ hs' ?_ (by simp)
        · simp [hlt, byL]
        · simpa [byVals] using hl'
        · rw [blens_append]; simp [blens] at *; omega
      · rw [if_neg hlt]
        refine fin ps s.heap s.toks ?_ hl (.refl ..) (by omega) (by omega)
        simp [hlt, byL]
theorem all (v : VK) : PK v := byEps (v0 := vK) (by unfold vK; rfl) main v
end kloop_bytes
theorem loop_bytes {prog : Program} {w : World} {A : Around} {R : Result → Shared → Prop} {P : Addr} {C : Addr} {code : Array Nat} {x r : Array UInt8} {rn T : Array Nat} {t u : Tok} {find : Nat → Option (Nat × Nat)} (hT : x.map (·.toNat) = T) (hrn : toBy rn = r) (hF : Finds code T find) (hr : r.size ≤ 2) {l : Addr} (h1 : P ≠ l) (h2 : C ≠ l) :
    ∀ (n st : Nat) (must : Bool) (cnt : Int) (ps : List (Array UInt8 × Tok)) (s : Shared), T.size - st < n → st ≤ T.size → s.heap.IsList l (byVals ps).toArray → PatAt s.heap P C code 1 →
      blens ps + 3 * (T.size - st) ≤ 1000000 → ps.length + 3 * (T.size - st) ≤ 1000000 →
      (∀ h' tk t' S, Heap.SameBut l s.heap h' → S = Bytes.joined #[] (ps.map (·.1) ++ byL (pcs find T rn n st)) → R (.ok (.ret (.bytes S t'))) { s with heap := h', toks := tk }) →
      codeAny (model prog w) A (.builtin "re.Pattern.sub.loop" (loopArgs P (.bytes x t) (.bytes r u) cnt st must l)) R s := kloop_bytes.all (prog, w, A, R, P, C, code, x, r, rn, T, t, u, l) find hT hrn hF hr h1 h2
end
section
variable {prog : Program} {w : World} {A : Around} {R : Result → Shared → Prop} {P C : Addr} {code : Array Nat}
theorem sub_bytes {x r : Array UInt8} {rn T : Array Nat} {t u : Tok} {find : Nat → Option (Nat × Nat)} {E : Value → Shared → Prop} {s : Shared} {Q : Value → Shared → Prop} (hP : PatAt s.heap P C code 1) (hT : x.map (·.toNat) = T) (hrn : toBy rn = r) (hF : Finds code T find) (hr : r.size ≤ 2) (hx : T.size ≤ 300000) (hb : r.contains 92 = false)
    (h : ∀ h' tk t', (∀ b o, s.heap.get? b = some o → h'.get? b = some o) → Q (.bytes (Bytes.joined #[] (byL (pcs find T rn (T.size + 1) 0))) t') { s with heap := h', toks := tk }) :
    wpAny (model prog w) A (call (.builtin "re.Pattern.sub") [.ref P, .bytes r u, .bytes x t]) Q E s := by
  obtain ⟨a0, b0, t0, t1, e1⟩ := hP.pat
  obtain ⟨vs, n0, e2, _⟩ := hP.code
  refine again_call slot_pat_sub ⟨_, e1, rfl⟩ entry_pat_sub (args_pat_sub _ _ _) ?_
  unfold Builtin.«re.Pattern.sub» reSubstitute
  refine wpAny_bind (m := reNamed "re.Pattern.sub" "sub" ["repl", "string", "count"] 2 [.bytes r u, .bytes x t] []) (wpAny_of_eq (a := [some (.bytes r u), some (.bytes x t), none]) rfl ?_)
  refine wpAny_bind (m := pure (0 : Int)) (wpAny_pure ?_)
  refine wpAny_bind (wpAny_specialOf (typeIs_bytes _ _ _) bytes_call_none ?_)
  refine wpAny_bind (m := asStr? (.bytes r u)) (wpAny_pure ?_)
  refine wpAny_bind (wpAny_of_eq KBy.quiet_eq ?_)
  show wpAny _ _ ((pure !r.contains 92) >>= _) _ _ s
  rw [hb]
  refine wpAny_bind (wpAny_pure ?_)
  refine wpAny_bind (m := pure (Value.bytes r u, (0 : Int))) (wpAny_pure ?_)
  refine wpAny_bind (wpAny_holding (whole_bytes hP ?_))
  refine wpAny_bind (wpAny_newList (wpAny_pure ⟨_, rfl, plainId_quiet plain_loop _, ?_⟩))
  have k : ∀ b o, s.heap.get? b = some o → (s.heap.push { cls := .type "list", data := .seq [].toArray }).get? b = some o := fun b o e => Heap.get?_push_of_some _ e
  refine loop_bytes (R := _) hT hrn hF hr (l := s.heap.objs.size) (Nat.ne_of_lt (Heap.lt_size e1)) (Nat.ne_of_lt (Heap.lt_size e2)) (T.size + 1) 0 false 0 [] _ (by omega) (by omega) ⟨_, Heap.get?_push_size _ rfl, rfl, _, rfl⟩ (hP.keeps k) (by simp [blens]; omega) (by simp; omega) ?_
  intro h' tk t' S hs hS
  subst hS
  exact h h' tk t' fun b o e => (hs.2 b (Nat.ne_of_lt (Heap.lt_size e))).trans (k b o e)
end
end Mine
end
end
-- part Cod
section
open PySem PySem.W PySem.Calls PyProof.Rows
namespace Mine
open PySem.Builtin

section
variable {prog : Program} {w : World} {A : Around} {E : Value → Shared → Prop} {s : Shared}

theorem foldBytes : ∀ (l : List Nat) (out : Array UInt8), l.foldl (fun acc y => acc ++ [y.toUInt8].toArray) out = out ++ (l.map (·.toUInt8)).toArray
  | [], out => by simp
  | x :: r, out => by rw [List.foldl_cons, foldBytes r]; simp

theorem ascii_clean {x : Str} (h : ∀ c ∈ x.cps.toList, c < 128) : x.cps.findIdx? (fun c => decide (c ≥ 128)) = none := by
  rw [Array.findIdx?_eq_none_iff]
  intro c hc
  have := h c (Array.mem_toList_iff.mpr hc)
  simp; lia

end
section
namespace knarrow_eq
noncomputable abbrev VK := (Around) × (Value → Shared → Prop) × (Shared) × (Value) × (Str) × (Array UInt8 → Shared → Prop)
noncomputable def PK (v : VK) : Prop :=
  (fun (A : Around) (E : Value → Shared → Prop) (s : Shared) (self : Value) (x : Str) (Q : Array UInt8 → Shared → Prop) =>
  ∀ (M : Model) (id : String) (h : ∀ c ∈ x.cps.toList, c < 128) (hx : x.cps.size ≤ 16777216) (hq : Q (x.cps.map (·.toUInt8)) s), wpAny M A (_codecs.encodeNarrow id _codecs.asciiCodec none self x) Q E s)
    v.1 v.2.1 v.2.2.1 v.2.2.2.1 v.2.2.2.2.1 v.2.2.2.2.2
@[irreducible] noncomputable def vK : VK := @Classical.epsilon VK ⟨(callerA, fun _ _ => True, {}, .none, ⟨#[]⟩, fun _ _ => True)⟩ fun v => ¬ PK v
noncomputable def A : Around := vK.1
noncomputable def E : Value → Shared → Prop := vK.2.1
noncomputable def s : Shared := vK.2.2.1
noncomputable def self : Value := vK.2.2.2.1
noncomputable def x : Str := vK.2.2.2.2.1
noncomputable def Q : Array UInt8 → Shared → Prop := vK.2.2.2.2.2
theorem main (M : Model) (id : String) (h : ∀ c ∈ x.cps.toList, c < 128) (hx : x.cps.size ≤ 16777216) (hq : Q (x.cps.map (·.toUInt8)) s) :
    wpAny M A (_codecs.encodeNarrow id _codecs.asciiCodec none self x) Q E s := by
  unfold _codecs.encodeNarrow
  dsimp only
  refine wpAny_bind ?_
  rw [Std.Legacy.Range.forIn_eq_forIn_range']
  have fin : wpAny M A (pure (x.cps.map (·.toUInt8))) Q E s := wpAny_pure hq
  refine wpAny_forIn_list _ (fun rest S s' => s' = s ∧ ((rest.length = x.cps.size ∧ S = (0, #[], {})) ∨ S = (x.cps.size, x.cps.map (·.toUInt8), {}))) _ (fun i rest S s' hI => ?_) (fun S s' hI => ?_) _ _ ⟨rfl, .inl ⟨?_, rfl⟩⟩
  · obtain ⟨rfl, ⟨hl, rfl⟩ | rfl⟩ := hI
    · rw [if_neg (by simp)]
      have h0 : 0 < x.cps.size := by rw [List.length_cons] at hl; lia
      have e1 : x.cps.extract 0 = x.cps := by simp
      have e2 : Array.findIdx? _codecs.asciiCodec.bad x.cps = none := ascii_clean h
      have e3 : _codecs.asciiCodec.bad x.cps[0] = false := by
        have := h x.cps[0] (by simp)
        show decide (x.cps[0] ≥ 128) = false
        simp; lia
      dsimp only
      rw [Array.getElem?_eq_getElem h0]
      dsimp only
      rw [e3, if_pos (show (!false) = true from rfl), e1, e2]
      refine wpAny_pure ⟨rfl, .inr ?_⟩
      show (0 + x.cps.size, (x.cps.extract 0 x.cps.size).foldl _ #[], _) = _
      rw [Array.extract_size, ← Array.foldl_toList]
      have := foldBytes x.cps.toList #[]
      refine Prod.ext (by simp) (Prod.ext ?_ rfl)
      refine Eq.trans this ?_
      apply Array.toList_inj.mp
      simp
    · rw [if_neg (by rw [sizeLine_eq]; simp; lia)]
      dsimp only
      rw [Array.getElem?_eq_none (Nat.le_refl _)]
      exact wpAny_pure fin
  · obtain ⟨rfl, ⟨hl, rfl⟩ | rfl⟩ := hI
    · have : x.cps = #[] := Array.eq_empty_of_size_eq_zero hl.symm
      rw [this] at fin
      simpa using fin
    · exact fin
  · simp [Str.length]
theorem all (v : VK) : PK v := byEps (v0 := vK) (by unfold vK; rfl) main v
end knarrow_eq
theorem narrow_eq {A : Around} {E : Value → Shared → Prop} {s : Shared} {M : Model} {id : String} {self : Value} {x : Str} {Q : Array UInt8 → Shared → Prop} (h : ∀ c ∈ x.cps.toList, c < 128) (hx : x.cps.size ≤ 16777216) (hq : Q (x.cps.map (·.toUInt8)) s) :
    wpAny M A (_codecs.encodeNarrow id _codecs.asciiCodec none self x) Q E s := knarrow_eq.all (A, E, s, self, x, Q) M id h hx hq
end
section
variable {prog : Program} {w : World} {A : Around} {E : Value → Shared → Prop} {s : Shared}
theorem encode_ascii {x : Str} {t u : Tok} {Q : Value → Shared → Prop} (h : ∀ c ∈ x.cps.toList, c < 128) (hx : x.cps.size ≤ 16777216) (hq : ∀ t' k, Q (.bytes (x.cps.map (·.toUInt8)) t') { s with toks := k }) :
    wpAny (model prog w) A (call (.builtin "str.encode") [.str x t, .str (Str.ofString "ascii") u]) Q E s := by
  refine wpAny_call_entry F.slot_str_encode (typeIs_str _ _ _) F.entry_str_encode ?_ (by unfold argsOk; kernel_rfl)
  unfold Builtin.«str.encode»
  refine wpAny_bind (m := Str.strSelf _) (wpAny_pure ?_)
  refine wpAny_bind (m := Str.bindOptional "str.encode" "encode" 0 ["encoding", "errors"] [.str (PySem.Str.ofString "ascii") u] []) (wpAny_of_eq (a := [some (.str (PySem.Str.ofString "ascii") u), none]) rfl ?_)
  refine wpAny_bind (m := Str.codecArg "str.encode" "encode" "'encoding'" (some (.str (PySem.Str.ofString "ascii") u))) (wpAny_of_eq (a := some (PySem.Str.ofString "ascii")) (by kernel_rfl) ?_)
  refine wpAny_bind (m := Str.codecArg "str.encode" "encode" "'errors'" none) (wpAny_pure ?_)
  have e : _codecs.encodeRoad "str.encode" (.str x t) x (PySem.Str.ofString "ascii") none = (_codecs.encodeNarrow "str.encode" _codecs.asciiCodec none (.str x t) x >>= mkBytes) := by kernel_rfl
  show wpAny _ _ (_codecs.encodeRoad "str.encode" (.str x t) x (PySem.Str.ofString "ascii") none >>= _) _ _ s
  rw [e]
  refine wpAny_bind (wpAny_bind (narrow_eq h hx (wpAny_mkBytes (wpAny_pure ⟨_, rfl, hq _ _⟩) (by rw [sizeLine_eq]; simpa using hx))))

end
section
namespace krun_ascii
noncomputable abbrev VK := (Around) × (Value → Shared → Prop) × (Shared) × (Array UInt8) × (Array Nat × Nat → Shared → Prop)
noncomputable def PK (v : VK) : Prop :=
  (fun (A : Around) (E : Value → Shared → Prop) (s : Shared) (b : Array UInt8) (Q : Array Nat × Nat → Shared → Prop) =>
  ∀ (M : Model) (id : String) (h : ∀ c ∈ b.toList, c.toNat < 128) (hx : b.size ≤ 16777216) (hq : ∀ n, Q (b.map (·.toNat), n) s), wpAny M A (_codecs.runDecoder id _codecs.asciiDecoder none true b 0 []) Q E s)
    v.1 v.2.1 v.2.2.1 v.2.2.2.1 v.2.2.2.2
@[irreducible] noncomputable def vK : VK := @Classical.epsilon VK ⟨(callerA, fun _ _ => True, {}, #[], fun _ _ => True)⟩ fun v => ¬ PK v
noncomputable def A : Around := vK.1
noncomputable def E : Value → Shared → Prop := vK.2.1
noncomputable def s : Shared := vK.2.2.1
noncomputable def b : Array UInt8 := vK.2.2.2.1
noncomputable def Q : Array Nat × Nat → Shared → Prop := vK.2.2.2.2
theorem main (M : Model) (id : String) (h : ∀ c ∈ b.toList, c.toNat < 128) (hx : b.size ≤ 16777216) (hq : ∀ n, Q (b.map (·.toNat), n) s) :
    wpAny M A (_codecs.runDecoder id _codecs.asciiDecoder none true b 0 []) Q E s := by
  unfold _codecs.runDecoder
  dsimp only
  refine wpAny_bind ?_
  rw [Std.Legacy.Range.forIn_eq_forIn_range']
  refine wpAny_forIn_list _ (fun rest S s' => s' = s ∧ ∃ k, k ≤ b.size ∧ rest.length = b.size - k ∧ S.1 = k ∧ S.2.1 = ((b.toList.take k).map (·.toNat)).toArray) _ (fun i rest S s' hI => ?_) (fun S s' hI => ?_) _ _ ⟨rfl, 0, by lia, by simp, rfl, by simp⟩
  · obtain ⟨rfl, k, hk, hl, h1, h2⟩ := hI
    obtain ⟨p, out, st⟩ := S
    dsimp only at h1 h2 ⊢
    subst h1 h2
    have hlt : p < b.size := by rw [List.length_cons] at hl; lia
    rw [if_neg (by rw [sizeLine_eq]; simp; lia), if_neg (by lia)]
    have hc := h b[p] (by simp)
    have ef : _codecs.asciiDecoder.find true b p = .text [b[p].toNat] (p + 1) := by
      show (if (b.getD p 0).toNat < 128 then _ else _) = _
      have e : b.getD p 0 = b[p] := by simp [hlt]
      rw [e, if_pos hc]; rfl
    rw [ef]
    refine wpAny_pure ⟨rfl, p + 1, by lia, by rw [List.length_cons] at hl; lia, rfl, ?_⟩
    dsimp only
    rw [List.take_add_one, Array.getElem?_toList, Array.getElem?_eq_getElem hlt]
    simp
  · obtain ⟨rfl, k, hk, hl, h1, h2⟩ := hI
    have : k = b.size := by simp at hl; lia
    subst this
    refine wpAny_pure ?_
    have e : S.2.1 = b.map (·.toNat) := by rw [h2, ← Array.length_toList, List.take_length]; apply Array.toList_inj.mp; simp
    rw [e]
    exact hq _
theorem all (v : VK) : PK v := byEps (v0 := vK) (by unfold vK; rfl) main v
end krun_ascii
theorem run_ascii {A : Around} {E : Value → Shared → Prop} {s : Shared} {M : Model} {id : String} {b : Array UInt8} {Q : Array Nat × Nat → Shared → Prop} (h : ∀ c ∈ b.toList, c.toNat < 128) (hx : b.size ≤ 16777216) (hq : ∀ n, Q (b.map (·.toNat), n) s) :
    wpAny M A (_codecs.runDecoder id _codecs.asciiDecoder none true b 0 []) Q E s := krun_ascii.all (A, E, s, b, Q) M id h hx hq
end
section
variable {prog : Program} {w : World} {A : Around} {E : Value → Shared → Prop} {s : Shared}
theorem decode_ascii {b : Array UInt8} {t u : Tok} {Q : Value → Shared → Prop} (h : ∀ c ∈ b.toList, c.toNat < 128) (hx : b.size ≤ 16777216) (hq : ∀ t' k, Q (.str ⟨b.map (·.toNat)⟩ t') { s with toks := k }) :
    wpAny (model prog w) A (call (.builtin "bytes.decode") [.bytes b t, .str (Str.ofString "ascii") u]) Q E s := by
  refine wpAny_call_entry FB.slot_bytes_decode (typeIs_bytes _ _ _) FB.entry_bytes_decode ?_ (by unfold argsOk; kernel_rfl)
  show wpAny _ _ (Bytes.decodeM .bytes ⟨[.bytes b t, .str (PySem.Str.ofString "ascii") u], []⟩) _ _ s
  unfold Bytes.decodeM
  refine wpAny_bind (m := Bytes.bindOptional _ _ _ _ _) (wpAny_of_eq (a := [some (.str (PySem.Str.ofString "ascii") u), none]) rfl ?_)
  refine wpAny_bind (m := Bytes.checkCodecArg _ _ _ (some (.str (PySem.Str.ofString "ascii") u))) (wpAny_of_eq (a := ()) (by kernel_rfl) ?_)
  refine wpAny_bind (m := Bytes.checkCodecArg _ _ _ none) (wpAny_pure ?_)
  rw [if_neg (show ¬ (Bytes.Kind.bytes.name == "bytearray") = true by decide)]
  show wpAny _ _ (Bytes.payload (.bytes b t) >>= _) _ _ s
  refine wpAny_bind (m := Bytes.payload (.bytes b t)) (wpAny_pure ?_)
  by_cases hb : b.isEmpty = true
  · rw [if_pos hb]
    have e : b = #[] := Array.isEmpty_iff.mp hb
    subst e
    have hq0 : ∀ t' k, Q (.str Str.empty t') { s with toks := k } := by simpa [Str.empty] using hq
    exact wpAny_bind (wpAny_rule (wpAny_bind (m := mkStr Str.empty) (wpAny_mkStr (wpAny_pure ⟨_, rfl, hq0 _ _⟩) (by decide))))
  · rw [if_neg hb]
    refine wpAny_bind (wpAny_mkStr ?_ (by decide))
    refine wpAny_bind (m := mkStr (Str.ofString "ascii")) (wpAny_mkStr ?_ (by decide))
    refine wpAny_bind (m := pure Value.none) (wpAny_pure ?_)
    refine wpAny_bind (wpAny_mkStr ?_ (by decide))
    refine wpAny_bind (call_function_entry KBd.kind_text KBd.plain_text KBd.entry_text (KBd.args_text _ _ _ _) ?_)
    unfold Builtin.«_codecs.decode.text»
    refine wpAny_bind (m := pure none) (wpAny_pure ?_)
    refine wpAny_bind (wpAny_of_eq KBd.like_eq ?_)
    refine wpAny_bind (wpAny_of_eq KBd.held_eq ?_)
    have e : ∀ id, _codecs.decodeRoad id b (Str.ofString "ascii") none [] = (_codecs.runDecoder id _codecs.asciiDecoder none true b 0 [] >>= fun r => mkStr ⟨r.1⟩) := fun id => by kernel_rfl
    rw [e]
    refine wpAny_bind (wpAny_bind (run_ascii h hx fun n => wpAny_mkStr (wpAny_pure ⟨_, rfl, wpAny_pure ⟨_, rfl, hq _ _⟩⟩) (by rw [sizeLine_eq]; simpa [Str.length] using hx)))
end
end Mine
end
section
local macro_rules | `(tactic| omega) => `(tactic| lia)
-- part ReP
section
open PySem PySem.W PySem.Calls PyProof.Rows
namespace Mine

/-- the ends of rows made one -/
noncomputable def fixL : List Nat → List Nat
  | [] => []
  | [c] => if c = 13 ∨ c = 10 then [13, 10] else [c]
  | c :: d :: r => if c = 13 then (if d = 10 then 13 :: 10 :: fixL r else 13 :: 10 :: fixL (d :: r)) else if c = 10 then 13 :: 10 :: fixL (d :: r) else c :: fixL (d :: r)
/-- a dot put ahead of each dot that begins a row -/
noncomputable def quoteL : Bool → List Nat → List Nat
  | _, [] => []
  | b, c :: r => (if b = true ∧ c = 46 then [46, 46] else [c]) ++ quoteL (c == 10) r

theorem fixL_plain {c : Nat} {r : List Nat} (h1 : c ≠ 13) (h2 : c ≠ 10) : fixL (c :: r) = c :: fixL r := by
  cases r with
  | nil => simp [fixL, h1, h2]
  | cons d r => simp [fixL, h1, h2]
theorem fixL_lf {r : List Nat} : fixL (10 :: r) = 13 :: 10 :: fixL r := by
  cases r <;> simp [fixL]
theorem fixL_crlf {r : List Nat} : fixL (13 :: 10 :: r) = 13 :: 10 :: fixL r := by simp [fixL]
theorem fixL_cr {r : List Nat} (h : r.head? ≠ some 10) : fixL (13 :: r) = 13 :: 10 :: fixL r := by
  cases r with
  | nil => simp [fixL]
  | cons d r => have : d ≠ 10 := by simpa using h
                simp [fixL, this]

section
variable {text : Array Nat}
theorem drop_at {s : Nat} (h : s < text.size) : text.toList.drop s = text.getD s 0 :: text.toList.drop (s + 1) := by
  have e : text.getD s 0 = text[s] := by simp [h]
  rw [e, ← Array.getElem_toList, List.drop_eq_getElem_cons (by simpa using h)]
theorem ext_succ {s p : Nat} (h : s < p) (hp : p ≤ text.size) : (text.extract s p).toList = text.getD s 0 :: (text.extract (s + 1) p).toList := by
  have e : text.getD s 0 = text[s]'(by omega) := by simp [show s < text.size by omega]
  rw [e]
  simp only [Array.toList_extract, List.extract_eq_take_drop]
  rw [List.drop_eq_getElem_cons (by simpa using (by omega : s < text.size)), show p - s = (p - (s + 1)) + 1 by omega, List.take_succ_cons]
  simp

theorem fix_find : ∀ {n s p : Nat}, find3 text n s = some p → fixL (text.toList.drop s) = (text.extract s p).toList ++ fixL (text.toList.drop p)
  | 0, _, _, h => by cases h
  | n + 1, s, p, h => by
    rw [find3] at h
    split at h
    · rename_i hs
      split at h
      · cases h; simp
      · rename_i hh
        have ih := fix_find h
        obtain ⟨h1, h2, h3⟩ := find3_some h
        rw [drop_at hs, ext_succ (by omega) (by omega)]
        unfold hit3 at hh
        have a1 : text.getD s 0 ≠ 13 := fun q => hh (by rw [q]; decide)
        have a2 : text.getD s 0 ≠ 10 := fun q => hh (by rw [q]; decide)
        rw [fixL_plain a1 a2, ih]; rfl
    · cases h
theorem fix_none : ∀ {n s : Nat}, text.size < s + n → find3 text n s = none → fixL (text.toList.drop s) = text.toList.drop s
  | 0, s, hn, _ => by rw [List.drop_of_length_le (by simp; omega)]; rfl
  | n + 1, s, hn, h => by
    rw [find3] at h
    split at h
    · rename_i hs
      split at h
      · cases h
      · rename_i hh
        have ih := fix_none (by omega) h
        unfold hit3 at hh
        have a1 : text.getD s 0 ≠ 13 := fun q => hh (by rw [q]; decide)
        have a2 : text.getD s 0 ≠ 10 := fun q => hh (by rw [q]; decide)
        rw [drop_at hs, fixL_plain a1 a2, ih]
    · rw [List.drop_of_length_le (by simp; omega)]; rfl
theorem fix_at {p : Nat} (hp : p < text.size) (hh : hit3 text p = true) : fixL (text.toList.drop p) = 13 :: 10 :: fixL (text.toList.drop (end3 text p)) := by
  rw [drop_at hp]
  unfold hit3 at hh
  unfold end3
  rcases Bool.or_eq_true_iff.mp hh with q | q
  · have q := beq_iff_eq.mp q
    rw [q, if_neg (by omega), fixL_lf]
  · have q := beq_iff_eq.mp q
    rw [q]
    by_cases h2 : p + 1 < text.size ∧ text.getD (p + 1) 0 = 10
    · rw [if_pos ⟨rfl, h2⟩, drop_at h2.1, h2.2, fixL_crlf]
    · rw [if_neg (fun x => h2 x.2)]
      refine fixL_cr fun x => h2 ?_
      by_cases h3 : p + 1 < text.size
      · refine ⟨h3, ?_⟩
        rw [drop_at h3] at x
        exact Option.some.inj x
      · rw [List.drop_of_length_le (by simp; omega)] at x; cases x

noncomputable def fnd3 (text : Array Nat) (s : Nat) : Option (Nat × Nat) := (find3 text (text.size + 1 - s) s).map fun a => (a, end3 text a)
noncomputable def fnd1 (text : Array Nat) (s : Nat) : Option (Nat × Nat) := (find1 text (text.size + 1 - s) s).map fun a => (a, a + 1)
theorem end3_bounds {p : Nat} (hp : p < text.size) : p < end3 text p ∧ end3 text p ≤ text.size := by
  unfold end3
  by_cases h : text.getD p 0 = 13 ∧ p + 1 < text.size ∧ text.getD (p + 1) 0 = 10
  · rw [if_pos h]; omega
  · rw [if_neg h]; omega
theorem finds3 : Finds C3 text (fnd3 text) where
  run := fun s must hs => let ⟨k, m', h1, h2, h3⟩ := search3 text s must hs; ⟨k, m', Nat.le_trans h1 (by decide), h2, h3⟩
  ok := fun s a b h => by
    unfold fnd3 at h
    obtain ⟨p, hp, e⟩ := Option.map_eq_some_iff.mp h
    cases e
    obtain ⟨h1, h2, h3⟩ := find3_some hp
    exact ⟨h3, end3_bounds h1⟩
theorem find1_some : ∀ {n s p : Nat}, find1 text n s = some p → s ≤ p ∧ hit1 text p = true
  | 0, _, _, h => by cases h
  | n + 1, s, p, h => by
    rw [find1] at h
    split at h
    · cases h; exact ⟨Nat.le_refl _, by assumption⟩
    · have := find1_some h; exact ⟨by omega, this.2⟩
theorem hit1_lt {p : Nat} (h : hit1 text p = true) : p < text.size ∧ text.getD p 0 = 46 ∧ (p == 0 || text.getD (p - 1) 0 == 10) = true := by
  unfold hit1 at h
  obtain ⟨h1, h2⟩ := Bool.and_eq_true_iff.mp h
  obtain ⟨h3, h4⟩ := Bool.and_eq_true_iff.mp h2
  exact ⟨of_decide_eq_true h3, beq_iff_eq.mp h4, h1⟩
theorem finds1 (hx : text.size ≤ 1000000) : Finds C1 text (fnd1 text) where
  run := fun s must hs => by
    obtain ⟨k, m', h1, h2, h3⟩ := search1 text s must hs
    have e : (2 : Nat) ^ 60 = 1152921504606846976 := by decide
    exact ⟨k, m', by rw [e]; omega, h2, h3⟩
  ok := fun s a b h => by
    unfold fnd1 at h
    obtain ⟨p, hp, e⟩ := Option.map_eq_some_iff.mp h
    cases e
    obtain ⟨h1, h2⟩ := find1_some hp
    have := (hit1_lt h2).1
    omega

theorem pcs_fix : ∀ (n st : Nat), text.size - st < n → st ≤ text.size → (pcs (fnd3 text) text #[13, 10] n st).flatMap (·.toList) = fixL (text.toList.drop st)
  | 0, st, h, _ => by omega
  | n + 1, st, h, hs => by
    rw [pcs]
    cases hf : fnd3 text st with
    | none =>
      dsimp only
      unfold fnd3 at hf
      have hf := Option.map_eq_none_iff.mp hf
      rw [fix_none (by omega) hf]
      split
      · simp only [List.flatMap_cons, List.flatMap_nil, List.append_nil, Array.toList_extract, List.extract_eq_take_drop]
        rw [List.take_of_length_le (by simp)]
      · rw [List.drop_of_length_le (by simp; omega)]; rfl
    | some ab =>
      obtain ⟨a, b⟩ := ab
      obtain ⟨o1, o2, o3⟩ := (finds3 (text := text)).ok st a b hf
      dsimp only
      unfold fnd3 at hf
      obtain ⟨p, hp, e⟩ := Option.map_eq_some_iff.mp hf
      obtain ⟨rfl, rfl⟩ := Prod.mk.inj e
      obtain ⟨h1, h2, h3⟩ := find3_some hp
      rw [fix_find hp, fix_at h1 h2, List.flatMap_append, List.flatMap_cons, pcs_fix n (end3 text p) (by omega) o3]
      have e : List.flatMap (fun x => x.toList) (if st < p then [text.extract st p] else []) = (text.extract st p).toList := by
        split
        · simp
        · have : p = st := by omega
          subst this; simp
      rw [e]; rfl

noncomputable def atRow (text : Array Nat) (s : Nat) : Bool := s == 0 || text.getD (s - 1) 0 == 10
theorem atRow_succ {s : Nat} : atRow text (s + 1) = (text.getD s 0 == 10) := by simp [atRow]
theorem quote_find : ∀ {n s p : Nat}, find1 text n s = some p → quoteL (atRow text s) (text.toList.drop s) = (text.extract s p).toList ++ quoteL (atRow text p) (text.toList.drop p)
  | 0, _, _, h => by cases h
  | n + 1, s, p, h => by
    rw [find1] at h
    split at h
    · cases h; simp
    · rename_i hh
      have ih := quote_find h
      obtain ⟨h1, h2⟩ := find1_some h
      have h3 := (hit1_lt h2).1
      have hs : s < text.size := by omega
      rw [drop_at hs, ext_succ (by omega) (by omega), quoteL, ← atRow_succ, ih, if_neg]
      · rfl
      · rintro ⟨a1, a2⟩
        apply hh
        unfold hit1
        unfold atRow at a1
        rw [a1, a2, decide_eq_true hs]; rfl
theorem quote_none : ∀ {n s : Nat}, text.size < s + n → find1 text n s = none → quoteL (atRow text s) (text.toList.drop s) = text.toList.drop s
  | 0, s, hn, _ => by rw [List.drop_of_length_le (by simp; omega)]; rfl
  | n + 1, s, hn, h => by
    rw [find1] at h
    split at h
    · cases h
    · rename_i hh
      have ih := quote_none (by omega) h
      by_cases hs : s < text.size
      · rw [drop_at hs, quoteL, ← atRow_succ, ih, if_neg]
        · rfl
        · rintro ⟨a1, a2⟩
          apply hh
          unfold hit1
          unfold atRow at a1
          rw [a1, a2, decide_eq_true hs]; rfl
      · rw [List.drop_of_length_le (by simp; omega)]; rfl
theorem quote_at {p : Nat} (hh : hit1 text p = true) : quoteL (atRow text p) (text.toList.drop p) = 46 :: 46 :: quoteL (atRow text (p + 1)) (text.toList.drop (p + 1)) := by
  obtain ⟨h1, h2, h3⟩ := hit1_lt hh
  rw [drop_at h1, quoteL, atRow_succ, if_pos ⟨h3, h2⟩]; rfl
theorem pcs_quote (hx : text.size ≤ 1000000) : ∀ (n st : Nat), text.size - st < n → st ≤ text.size → (pcs (fnd1 text) text #[46, 46] n st).flatMap (·.toList) = quoteL (atRow text st) (text.toList.drop st)
  | 0, st, h, _ => by omega
  | n + 1, st, h, hs => by
    rw [pcs]
    cases hf : fnd1 text st with
    | none =>
      dsimp only
      unfold fnd1 at hf
      have hf := Option.map_eq_none_iff.mp hf
      rw [quote_none (by omega) hf]
      split
      · simp only [List.flatMap_cons, List.flatMap_nil, List.append_nil, Array.toList_extract, List.extract_eq_take_drop]
        rw [List.take_of_length_le (by simp)]
      · rw [List.drop_of_length_le (by simp; omega)]; rfl
    | some ab =>
      obtain ⟨a, b⟩ := ab
      obtain ⟨o1, o2, o3⟩ := (finds1 hx).ok st a b hf
      dsimp only
      unfold fnd1 at hf
      obtain ⟨p, hp, e⟩ := Option.map_eq_some_iff.mp hf
      obtain ⟨rfl, rfl⟩ := Prod.mk.inj e
      obtain ⟨h1, h2⟩ := find1_some hp
      rw [quote_find hp, quote_at h2, List.flatMap_append, List.flatMap_cons, pcs_quote hx n (p + 1) (by omega) o3]
      have e : List.flatMap (fun x => x.toList) (if st < p then [text.extract st p] else []) = (text.extract st p).toList := by
        split
        · simp
        · have : p = st := by omega
          subst this; simp
      rw [e]; rfl
end

theorem join_flat : ∀ (l : List (Array Nat)), Txt.join ⟨#[]⟩ (strL l) = mkS (l.flatMap (·.toList)) := by
  intro l
  have hj : ∀ l : List (Array Nat), (Str.join ⟨#[]⟩ (strL l)).cps.toList = l.flatMap (·.toList) := by
    intro l
    induction l with
    | nil => rfl
    | cons a r ih =>
      cases r with
      | nil => simp [strL, Str.join]
      | cons b r =>
        show (Str.append (Str.append ⟨a⟩ ⟨#[]⟩) (Str.join ⟨#[]⟩ (strL (b :: r)))).cps.toList = _
        simp only [Str.append, Array.toList_append, ih]
        simp
  unfold Txt.join
  rw [StrLaws.glued_eq_join]
  apply congrArg Str.mk
  apply Array.toList_inj.mp
  rw [hj]
theorem joined_flat : ∀ (l : List (Array Nat)), PySem.Builtin.Bytes.joined #[] (byL l) = ((l.flatMap (·.toList)).map (·.toUInt8)).toArray := by
  intro l
  have gen : ∀ (l : List (Array Nat)) (k : Nat) (out : Array UInt8), (((byL l).zipIdx k).foldl (fun out (p, i) => (if i > 0 then out ++ #[] else out) ++ p) out).toList = out.toList ++ (l.flatMap (·.toList)).map (·.toUInt8) := by
    intro l
    induction l with
    | nil => intro k out; simp [byL]
    | cons a r ih =>
      intro k out
      rw [show byL (a :: r) = toBy a :: byL r from rfl, List.zipIdx_cons, List.foldl_cons, ih]
      simp
  apply Array.toList_inj.mp
  exact (gen l 0 #[]).trans (by simp)
end Mine
end
end
-- part Base
section
open PySem PySem.W PySem.Calls PyProof.Rows
namespace Mine
/-- of a written list's members, one by one -/
theorem allC {α : Type} {p : α → Prop} {a : α} {l : List α} (h : p a) (r : ∀ q ∈ l, p q) : ∀ q ∈ a :: l, p q := List.forall_mem_cons.mpr ⟨h, r⟩
theorem allN {α : Type} {p : α → Prop} : ∀ q ∈ ([] : List α), p q := fun _ h => absurd h List.not_mem_nil

/-- what a call gives back: a value, a heap that keeps the old one -/
noncomputable def Ret (s : Shared) (P : Value → Heap → Prop) (r : Result) (s' : Shared) : Prop :=
  ∃ v h' tk, r = .ok (.ret v) ∧ s' = { s with heap := h', toks := tk } ∧ (∀ b o, s.heap.get? b = some o → h'.get? b = some o) ∧ P v h'

theorem enter0 {prog : Program} {w : World} {A : Around} {s : Shared} {K : Frag} {p : Program} {loose : List Str} {mean : ExcName → Option Value} {mg mb : Str → Option Value}
    {R : Result → Shared → Prop} {name qual : Str} {params : Arguments} {body : List Stmt} {scope : Scope} {dV kV doc pm cdv ct oc : Value} {an od : Option Addr} {osl : Array (Option Value)} {f : Addr} {args : Args} {binds : List (Str × Value)}
    (X : K.In s.heap) (T : Top p loose mean mg mb s.heap)
    (ho : K.lookup f = some ⟨oc, od, .func (fnOf name qual params body scope dV kV doc pm an cdv ct), osl⟩) (hcd : codeIn K cdv qual = true) (hroom : A.depth < recursionLimit)
    (hbind : bindArgs (fnOf name qual params body scope dV kV doc pm an cdv ct) args = pure binds) (hloc : (binds.all fun x => decide (scope.names.lookup x.1 = some .local)) = true)
    (h : ∀ h₁, Fr s.heap s.heap.objs.size h₁ (fun y => binds.reverse.lookup y) → News s.heap s.heap.objs.size h₁ [] →
      wpAny (model prog w) (A.deeper (envOf qual scope s.heap.objs.size f cdv)) (execs body (envOf qual scope s.heap.objs.size f cdv))
        (fun fl s' => R (.ok (.ret (match fl with | .ret v => v | _ => .none))) s') (fun _ _ => False)
        { s with heap := h₁, toks := s.toks + binds.length })
    (hcell : ∀ x ∈ scope.names, x.2 ≠ .cell) (hco : scope.isCoroutine = false) (hgen : scope.isGenerator = false) (hk : scope.kind = .function) :
    codeAny (model prog w) A (.call (.ref f) args) R s := by
  refine codeAny_call_def (fd := fnOf name qual params body scope dV kV doc pm an cdv ct) (body := body) (binds := binds) hroom (X _ _ ho) rfl T.nolimit (codeRec_of X hcd) rfl (BindsTo.of_eq hbind) hcell (locs hloc) (fun h₁ hns hk₁ => ?_) hco hgen hk
  exact wpAny_mono (h h₁ ⟨hns, hk₁, Nat.le_refl _⟩ News.nil) (fun _ _ y => y) fun _ _ y => y.elim

theorem use_ret {prog : Program} {w : World} {A : Around} {s : Shared} {f : Value} {args : List Value} {P : Value → Heap → Prop} {E : Value → Shared → Prop} {Q : Value → Shared → Prop}
    (hc : codeAny (model prog w) A (.call f ⟨args, []⟩) (Ret s P) s)
    (h : ∀ v h' tk, (∀ b o, s.heap.get? b = some o → h'.get? b = some o) → P v h' → Q v { s with heap := h', toks := tk }) : wpAny (model prog w) A (call f args) Q E s :=
  wpAny_call (codeAny_mono hc fun r s' ⟨v, h', tk, e1, e2, k, p⟩ => by subst e1 e2; exact h v h' tk k p)

/-- the same within a frame -/
theorem use_fr {prog : Program} {w : World} {A : Around} {s : Shared} {f : Value} {args : List Value} {P : Value → Heap → Prop} {E : Value → Shared → Prop} {Q : Value → Shared → Prop} {h₀ : Heap} {L : Addr} {m : Str → Option Value} {news : List (Addr × Obj)}
    (F : Fr h₀ L s.heap m) (N : News h₀ L s.heap news) (hc : codeAny (model prog w) A (.call f ⟨args, []⟩) (Ret s P) s)
    (h : ∀ v h' tk, Fr h₀ L h' m → News h₀ L h' news → P v h' → Q v { s with heap := h', toks := tk }) : wpAny (model prog w) A (call f args) Q E s :=
  use_ret hc fun v h' tk k p => h v h' tk (Fr.keeps F k) (News.grown N k) p

end Mine
end
-- part Gen1
section
open PySem PySem.W PySem.Calls PyProof.Rows
namespace Mine

/-- what the generator hands out: a place and the signs -/
noncomputable def escL : Nat → Bool → List Nat → List (Nat × List Nat)
  | i, e, [] => if e then [(i - 1, [92])] else []
  | i, true, c :: r => (i, [92, c]) :: escL (i + 1) false r
  | i, false, c :: r => if c = 92 then escL (i + 1) true r else (i, [c]) :: escL (i + 1) false r

noncomputable abbrev Pr (B a : Nat) (b : Nat) : Prop := b < B ∨ b = a
noncomputable def lowOf (h₀ : Heap) (B a : Nat) (h : Heap) : List (Addr × Obj) :=
  (a :: List.range B).filterMap fun b => if (h₀.get? b).isSome then none else (h.get? b).map fun o => (b, o)
theorem mem_low {h₀ h : Heap} {B a : Nat} {p : Addr × Obj} : p ∈ lowOf h₀ B a h ↔ Pr B a p.1 ∧ h₀.get? p.1 = none ∧ h.get? p.1 = some p.2 := by
  unfold lowOf
  rw [List.mem_filterMap]
  constructor
  · rintro ⟨b, hb, e⟩
    have hb : Pr B a b := by
      rcases List.mem_cons.mp hb with hb | hb
      · exact .inr hb
      · exact .inl (List.mem_range.mp hb)
    split at e
    · cases e
    · rename_i hn
      obtain ⟨o, ho, rfl⟩ := Option.map_eq_some_iff.mp e
      exact ⟨hb, by simpa using hn, ho⟩
  · rintro ⟨h1, h2, h3⟩
    exact ⟨p.1, h1.elim (fun h => List.mem_cons_of_mem _ (List.mem_range.mpr h)) (fun h => h ▸ List.mem_cons_self), by rw [h2, h3]; rfl⟩
theorem low_news {h₀ h : Heap} {B a C : Nat} (hC : B ≤ C) (ha : a ≠ C) : News h₀ C h (lowOf h₀ B a h) := fun p hp => by
  obtain ⟨h1, h2, h3⟩ := mem_low.mp hp
  exact ⟨h3, h1.elim (fun h => Nat.ne_of_lt (Nat.lt_of_lt_of_le h hC)) (fun h => h ▸ ha), h2⟩
theorem low_since {h₀ h h' : Heap} {B a C : Nat} (k₀ : ∀ b o, h₀.get? b = some o → h.get? b = some o) (k₁ : ∀ b o, h₀.get? b = some o → h'.get? b = some o) (N : News h₀ C h' (lowOf h₀ B a h)) :
    ∀ b o, Pr B a b → h.get? b = some o → h'.get? b = some o := fun b o hb e => by
  cases q : h₀.get? b with
  | some o' =>
    have := k₀ b o' q
    rw [e] at this
    cases this
    exact k₁ b o q
  | none => exact (N (b, o) (mem_low.mpr ⟨hb, q, e⟩)).1

/-- a segment keeps what lies below B -/
noncomputable def Since (B a : Nat) (s₀ s : Shared) : Prop := ∃ h' tk, s = { s₀ with heap := h', toks := tk } ∧ ∀ b o, Pr B a b → s₀.heap.get? b = some o → h'.get? b = some o

noncomputable abbrev escTup (h : Heap) (v : Value) (p : Nat × List Nat) : Prop := ∃ T t t', v = .ref T ∧ h.IsTuple T #[.int p.1 t, .str (mkS p.2) t']

noncomputable def gY (h₀ : Heap) (B a : Nat) (items : List (Nat × List Nat)) : Protocol := fun m s₀ v s kap =>
  (∃ p, items[items.length - 1 - m]? = some p ∧ escTup s.heap v p ∧ ∀ T, v = .ref T → B ≤ T) ∧ Since B a s₀ s ∧
    ∀ s'' : Shared, (∀ b o, B ≤ b → s.heap.get? b = some o → s''.heap.get? b = some o) → (∀ b o, h₀.get? b = some o → s''.heap.get? b = some o) → kap (.send .none) s''
noncomputable def gR (B a : Nat) : GenEnd := fun n s₀ r s₁ => r = .ok (.ret .none) ∧ (n = 0 ∧ Since B a s₀ s₁)

/-- the generator stands ahead of its item j -/
noncomputable def GenP (prog : Program) (w : World) (A : Around) (h₀ : Heap) (B : Nat) (a : Addr) (g : Nat) (items : List (Nat × List Nat)) (j : Nat) (s : Shared) : Prop :=
  B ≤ a ∧ s.heap.IsGen a g ∧ ∃ gs, s.gens[g]? = some gs ∧ gs.bare = true ∧ ∀ s'' : Shared, (∀ b o, B ≤ b → s.heap.get? b = some o → s''.heap.get? b = some o) → (∀ b o, h₀.get? b = some o → s''.heap.get? b = some o) →
    gs.Goes (model prog w) A.in1 (gR B a) (gY h₀ B a items) (items.length - j) (.send .none) s''

section
variable {M : Model} {A : Around} {E : Value → Shared → Prop} {s : Shared} {a : Addr} {g m : Nat} {gs : GenState} {R : GenEnd} {Y : Protocol} {T : PySem.Fin → Shared → Prop}
/-- a generator that cannot end now hands out an item, and is left bare -/
theorem wake_item (hl : s.heap.NoLimit) (hroom : A.depth < recursionLimit) (hg : s.heap.IsGen a g) (hgs : s.gens[g]? = some gs) (W : gs.Goes M A R Y (m + 1) (.send .none) (s.setGen g .running))
    (no : ∀ r s₁, ¬ R (m + 1) (s.setGen g .running) r s₁)
    (item : ∀ v s₁ g₁, GenState.bare g₁ = true → Y m (s.setGen g .running) v s₁ (fun r s₂ => g₁.Goes M A R Y m r s₂) → T (.done (.ret v)) (s₁.setGen g g₁)) :
    wpAny M A (Builtin.Generator.genWake (.ref a) (.send .none)) T E s := by
  have live : gs ≠ .running ∧ gs ≠ .finished := ⟨fun e => by rw [e] at W; exact W, fun e => by rw [e] at W; exact W⟩
  have go : ∀ k : GenResult → Sem PySem.Fin, (∀ v, k (.yielded v) = ret v) → wpAny M A (.resume g (.send .none) [] k) T E s := fun k hk =>
    wpAny_resumeQ hgs W (fun r s₁ x => (no r s₁ x).elim) fun v s₁ g₁ b y => by rw [hk v]; exact wpAny_pure (item v s₁ g₁ b y)
  unfold Builtin.Generator.genWake
  apply wpAny_bind
  apply wpAny_holding
  refine wpAny_genNumber hg (wpAny_bind (wpAny_genState hgs ?_))
  rcases gs with _ | _ | _ | _ <;> first
    | exact absurd rfl live.1
    | exact absurd rfl live.2
    | exact wpAny_bind (wpAny_roomToWake hl hroom (go _ fun _ => rfl))
end
section
variable {prog : Program} {w : World} {A : Around} {E : Value → Shared → Prop} {s : Shared}
/-- gens changed at g alone, bare there -/
noncomputable abbrev GensOk (g : Nat) (a b : Array GenState) : Prop := GenOnlyQ g a b

end
section
namespace kgenP_item
noncomputable abbrev VK := (Program) × (World) × (Around) × (Value → Shared → Prop) × (Shared) × (Heap) × (Nat) × (Addr) × (Nat) × (List (Nat × List Nat)) × (Nat) × (Option Value → Shared → Prop)
noncomputable def PK (v : VK) : Prop :=
  (fun (prog : Program) (w : World) (A : Around) (E : Value → Shared → Prop) (s : Shared) (h₀ : Heap) (B : Nat) (a : Addr) (g : Nat) (items : List (Nat × List Nat)) (j : Nat) (Q : Option Value → Shared → Prop) =>
  ∀ (p : Nat × List Nat) (hh : A.handled = none) (hl : s.heap.NoLimit) (hroom : A.depth < recursionLimit) (G : GenP prog w A h₀ B a g items j s) (k₀ : ∀ b o, h₀.get? b = some o → s.heap.get? b = some o) (hp : items[j]? = some p) (h : ∀ v h' tk gs', escTup h' v p → (∀ T, v = .ref T → B ≤ T) → (∀ b o, b < B → s.heap.get? b = some o → h'.get? b = some o) → GensOk g s.gens gs' → GenP prog w A h₀ B a g items (j + 1) { s with heap := h', toks := tk, gens := gs' } → Q (some v) { s with heap := h', toks := tk, gens := gs' }), wpAny (model prog w) A (pyNext (.ref a)) Q E s)
    v.1 v.2.1 v.2.2.1 v.2.2.2.1 v.2.2.2.2.1 v.2.2.2.2.2.1 v.2.2.2.2.2.2.1 v.2.2.2.2.2.2.2.1 v.2.2.2.2.2.2.2.2.1 v.2.2.2.2.2.2.2.2.2.1 v.2.2.2.2.2.2.2.2.2.2.1 v.2.2.2.2.2.2.2.2.2.2.2
@[irreducible] noncomputable def vK : VK := @Classical.epsilon VK ⟨(PySem.Challenge.rw_rs0108_01.row.prog, aW, callerA, fun _ _ => True, {}, {}, 0, 0, 0, [], 0, fun _ _ => True)⟩ fun v => ¬ PK v
noncomputable def prog : Program := vK.1
noncomputable def w : World := vK.2.1
noncomputable def A : Around := vK.2.2.1
noncomputable def E : Value → Shared → Prop := vK.2.2.2.1
noncomputable def s : Shared := vK.2.2.2.2.1
noncomputable def h₀ : Heap := vK.2.2.2.2.2.1
noncomputable def B : Nat := vK.2.2.2.2.2.2.1
noncomputable def a : Addr := vK.2.2.2.2.2.2.2.1
noncomputable def g : Nat := vK.2.2.2.2.2.2.2.2.1
noncomputable def items : List (Nat × List Nat) := vK.2.2.2.2.2.2.2.2.2.1
noncomputable def j : Nat := vK.2.2.2.2.2.2.2.2.2.2.1
noncomputable def Q : Option Value → Shared → Prop := vK.2.2.2.2.2.2.2.2.2.2.2
theorem main (p : Nat × List Nat) (hh : A.handled = none) (hl : s.heap.NoLimit) (hroom : A.depth < recursionLimit) (G : GenP prog w A h₀ B a g items j s) (k₀ : ∀ b o, h₀.get? b = some o → s.heap.get? b = some o) (hp : items[j]? = some p) (h : ∀ v h' tk gs', escTup h' v p → (∀ T, v = .ref T → B ≤ T) → (∀ b o, b < B → s.heap.get? b = some o → h'.get? b = some o) → GensOk g s.gens gs' → GenP prog w A h₀ B a g items (j + 1) { s with heap := h', toks := tk, gens := gs' } → Q (some v) { s with heap := h', toks := tk, gens := gs' }) :
    wpAny (model prog w) A (pyNext (.ref a)) Q E s := by
  obtain ⟨hBa, hg, gs, hgs, hb, hgo⟩ := G
  have hj : j < items.length := (List.getElem?_eq_some_iff.mp hp).1
  obtain ⟨m, hm⟩ : ∃ m, items.length - j = m + 1 := ⟨items.length - j - 1, by lia⟩
  rw [hm] at hgo
  unfold pyNext
  refine wpAny_bind (wpAny_attempt (wpAny_callSpecial?_slot hg.typeIs slot_gen_next (wpAny_call_entry slot_gen_next hg.typeIs entry_gen_next (wake_item hl hroom hg hgs (hgo _ (fun _ _ _ e => e) k₀)
    (fun r s₁ x => Nat.succ_ne_zero m x.2.1) fun v s₁ gs' hb' hv => ⟨v, rfl, wpAny_pure ?_⟩) (args_gen_next _))))
  obtain ⟨⟨q, hq, ht, hTB⟩, ⟨h₁, tk₁, rfl, hk₁⟩, hkap⟩ := hv
  rw [show items.length - 1 - m = j by lia, hp] at hq
  cases hq
  refine h v h₁ tk₁ _ ht hTB (fun b o hb e => hk₁ b o (.inl hb) e) (GenOnlyQ.of ((GenOnly.setGen s g .running).trans (GenOnly.setGen _ g gs')) (setGen_self (gs := .running) (setGen_self hgs)) hb') ⟨hBa, ?_, gs', setGen_self (gs := .running) (setGen_self hgs), hb', fun s'' hhi hlo => ?_⟩
  · obtain ⟨o, nm, qn, ho, r⟩ := hg
    exact ⟨o, nm, qn, hk₁ a o (.inr rfl) ho, r⟩
  · rw [show items.length - (j + 1) = m by lia]
    exact hkap s'' hhi hlo
theorem all (v : VK) : PK v := byEps (v0 := vK) (by unfold vK; rfl) main v
end kgenP_item
theorem genP_item {prog : Program} {w : World} {A : Around} {E : Value → Shared → Prop} {s : Shared} {h₀ : Heap} {B : Nat} {a : Addr} {g : Nat} {items : List (Nat × List Nat)} {j : Nat} {p : Nat × List Nat} {Q : Option Value → Shared → Prop} (hh : A.handled = none) (hl : s.heap.NoLimit) (hroom : A.depth < recursionLimit) (G : GenP prog w A h₀ B a g items j s) (k₀ : ∀ b o, h₀.get? b = some o → s.heap.get? b = some o) (hp : items[j]? = some p) (h : ∀ v h' tk gs', escTup h' v p → (∀ T, v = .ref T → B ≤ T) → (∀ b o, b < B → s.heap.get? b = some o → h'.get? b = some o) → GensOk g s.gens gs' → GenP prog w A h₀ B a g items (j + 1) { s with heap := h', toks := tk, gens := gs' } → Q (some v) { s with heap := h', toks := tk, gens := gs' }) :
    wpAny (model prog w) A (pyNext (.ref a)) Q E s := kgenP_item.all (prog, w, A, E, s, h₀, B, a, g, items, j, Q) p hh hl hroom G k₀ hp h
end
section
variable {prog : Program} {w : World} {A : Around} {E : Value → Shared → Prop} {s : Shared}
end
section
namespace kgenP_end
noncomputable abbrev VK := (Program) × (World) × (Around) × (Value → Shared → Prop) × (Shared) × (Heap) × (Nat) × (Addr) × (Nat) × (List (Nat × List Nat)) × (Option Value → Shared → Prop)
noncomputable def PK (v : VK) : Prop :=
  (fun (prog : Program) (w : World) (A : Around) (E : Value → Shared → Prop) (s : Shared) (h₀ : Heap) (B : Nat) (a : Addr) (g : Nat) (items : List (Nat × List Nat)) (Q : Option Value → Shared → Prop) =>
  ∀ (hB : h₀.objs.size ≤ B) (hh : A.handled = none) (hl : s.heap.NoLimit) (hroom : A.depth < recursionLimit) (G : GenP prog w A h₀ B a g items items.length s) (k₀ : ∀ b o, h₀.get? b = some o → s.heap.get? b = some o) (h : ∀ h' tk gs', (∀ b o, b < B → s.heap.get? b = some o → h'.get? b = some o) → GensOk g s.gens gs' → Q none { s with heap := h', toks := tk, gens := gs' }), wpAny (model prog w) A (pyNext (.ref a)) Q E s)
    v.1 v.2.1 v.2.2.1 v.2.2.2.1 v.2.2.2.2.1 v.2.2.2.2.2.1 v.2.2.2.2.2.2.1 v.2.2.2.2.2.2.2.1 v.2.2.2.2.2.2.2.2.1 v.2.2.2.2.2.2.2.2.2.1 v.2.2.2.2.2.2.2.2.2.2
@[irreducible] noncomputable def vK : VK := @Classical.epsilon VK ⟨(PySem.Challenge.rw_rs0108_01.row.prog, aW, callerA, fun _ _ => True, {}, {}, 0, 0, 0, [], fun _ _ => True)⟩ fun v => ¬ PK v
noncomputable def prog : Program := vK.1
noncomputable def w : World := vK.2.1
noncomputable def A : Around := vK.2.2.1
noncomputable def E : Value → Shared → Prop := vK.2.2.2.1
noncomputable def s : Shared := vK.2.2.2.2.1
noncomputable def h₀ : Heap := vK.2.2.2.2.2.1
noncomputable def B : Nat := vK.2.2.2.2.2.2.1
noncomputable def a : Addr := vK.2.2.2.2.2.2.2.1
noncomputable def g : Nat := vK.2.2.2.2.2.2.2.2.1
noncomputable def items : List (Nat × List Nat) := vK.2.2.2.2.2.2.2.2.2.1
noncomputable def Q : Option Value → Shared → Prop := vK.2.2.2.2.2.2.2.2.2.2
theorem main (hB : h₀.objs.size ≤ B) (hh : A.handled = none) (hl : s.heap.NoLimit) (hroom : A.depth < recursionLimit) (G : GenP prog w A h₀ B a g items items.length s) (k₀ : ∀ b o, h₀.get? b = some o → s.heap.get? b = some o) (h : ∀ h' tk gs', (∀ b o, b < B → s.heap.get? b = some o → h'.get? b = some o) → GensOk g s.gens gs' → Q none { s with heap := h', toks := tk, gens := gs' }) :
    wpAny (model prog w) A (pyNext (.ref a)) Q E s := by
  obtain ⟨hBa, hg, gs, hgs, hb, hgo⟩ := G
  rw [Nat.sub_self] at hgo
  refine wpAny_pyNext_gen (P := fun n s₀ s₁ => n = 0 ∧ Since B a s₀ s₁) hh hl hroom hg hgs (hgo _ (fun _ _ _ e => e) k₀) (fun v s₁ gs' hv => ?_) (fun s₁ hp h' hk => ?_)
  · obtain ⟨_, ⟨h₁, tk₁, rfl, hk₁⟩, hkap⟩ := hv
    exact (hkap _ (fun _ _ _ e => e) (fun b o e => hk₁ b o (.inl (Nat.lt_of_lt_of_le (Heap.lt_size e) hB)) (k₀ b o e))).elim
  · obtain ⟨_, h₁, tk₁, rfl, hk₁⟩ := hp
    exact h h' tk₁ _ (fun b o hb e => hk b o (hk₁ b o (.inl hb) e)) (GenOnlyQ.of ((GenOnly.setGen s g .running).trans (GenOnly.setGen _ g .finished)) (setGen_self (gs := .running) (setGen_self hgs)) rfl)
theorem all (v : VK) : PK v := byEps (v0 := vK) (by unfold vK; rfl) main v
end kgenP_end
theorem genP_end {prog : Program} {w : World} {A : Around} {E : Value → Shared → Prop} {s : Shared} {h₀ : Heap} {B : Nat} {a : Addr} {g : Nat} {items : List (Nat × List Nat)} {Q : Option Value → Shared → Prop} (hB : h₀.objs.size ≤ B) (hh : A.handled = none) (hl : s.heap.NoLimit) (hroom : A.depth < recursionLimit) (G : GenP prog w A h₀ B a g items items.length s) (k₀ : ∀ b o, h₀.get? b = some o → s.heap.get? b = some o) (h : ∀ h' tk gs', (∀ b o, b < B → s.heap.get? b = some o → h'.get? b = some o) → GensOk g s.gens gs' → Q none { s with heap := h', toks := tk, gens := gs' }) :
    wpAny (model prog w) A (pyNext (.ref a)) Q E s := kgenP_end.all (prog, w, A, E, s, h₀, B, a, g, items, Q) hB hh hl hroom G k₀ h
end
end Mine
end
section
local macro_rules | `(tactic| omega) => `(tactic| lia)
-- part Gen2
section
open PySem PySem.W PySem.Calls PyProof.Rows
namespace Mine

theorem enterGen {prog : Program} {w : World} {A : Around} {s : Shared} {K : Frag} {R : Result → Shared → Prop} {name qual : Str} {params : Arguments} {body : List Stmt} {scope : Scope} {dV kV doc pm cdv ct oc : Value} {an od : Option Addr} {osl : Array (Option Value)} {f : Addr} {args : Args} {binds : List (Str × Value)}
    (X : K.In s.heap) (hl : s.heap.NoLimit)
    (ho : K.lookup f = some ⟨oc, od, .func (fnOf name qual params body scope dV kV doc pm an cdv ct), osl⟩) (hcd : codeIn K cdv qual = true) (hroom : A.depth < recursionLimit)
    (hbind : bindArgs (fnOf name qual params body scope dV kV doc pm an cdv ct) args = pure binds) (hloc : (binds.all fun x => decide (scope.names.lookup x.1 = some .local)) = true)
    (h : ∀ h₁ t1 t2 tk, Fr s.heap s.heap.objs.size h₁ (fun y => binds.reverse.lookup y) → h₁.objs.size = s.heap.objs.size + 1 →
      R (.ok (.ret (.ref h₁.objs.size))) { s with gens := s.gens.push (.fresh (.func body (envOf qual scope s.heap.objs.size f cdv))), toks := tk, heap := h₁.push { cls := .type "generator", data := .fields #[.int s.gens.size 0, .str name t1, .str qual t2] } })
    (hcell : ∀ x ∈ scope.names, x.2 ≠ .cell) (hco : scope.isCoroutine = false) (hgen : scope.isGenerator = true) (hk : scope.kind = .function) :
    codeAny (model prog w) A (.call (.ref f) args) R s := by
  refine codeAny_call_generator (fd := fnOf name qual params body scope dV kV doc pm an cdv ct) (body := body) hroom (X _ _ ho) rfl hco hgen rfl (codeRec_of X hcd) ?_
  rw [hbind]
  refine wpAny_pure (wpAny_newFunctionEnv hcell (locs hloc) (fun h₁ hns hsb => ⟨hl.fresh _ hsb, ?_⟩) hk)
  exact h h₁ _ _ _ ⟨hns, fun b o e => hsb.extBut b o (Nat.ne_of_lt (Heap.lt_size e)) (Heap.get?_push_of_some _ e), Nat.le_refl _⟩ (by rw [hsb.1, Heap.size_push])


theorem draws_str {prog : Program} {w : World} {A : Around} (hh : A.handled = none) (it : Addr) (x : Str) (t : Tok) :
    Draws prog w A it [it] x.cps.size (fun i v => ∃ c u, x.cps[i]? = some c ∧ v = .str ⟨#[c]⟩ u) (fun i h => h.IsStrIter it (strIterType x) x t i) := by
  cases ha : x.cps.all (· < 128)
  · have e : strIterType x = "str_iterator" := by simp only [strIterType, ha]; rfl
    rw [e]; exact Draws.strWide hh it x t
  · have e : strIterType x = "str_ascii_iterator" := by simp only [strIterType, ha]; rfl
    rw [e]; exact Draws.strAscii hh it x t

theorem ns_of {h₀ h h' : Heap} {C : Addr} {m : Str → Option Value} (F : Fr h₀ C h m) (e : ∀ o, h.get? C = some o → h'.get? C = some o) : h'.Ns C m := F.ns.at' e


structure GS (h₀ : Heap) (C a : Nat) (x : Str) (t : Tok) (en it : Addr) (items : List (Nat × List Nat)) (i : Nat) (e : Bool) (s₀ s₁ : Shared) (m : Str → Option Value) : Prop where
  le : i ≤ x.cps.size
  k₀ : ∀ b o, h₀.get? b = some o → s₀.heap.get? b = some o
  F : Fr h₀ C s₁.heap m
  N : News h₀ C s₁.heap (lowOf h₀ C a s₀.heap)
  sh : ∃ h tk, s₁ = { s₀ with heap := h, toks := tk }
  esc : m (Str.ofString "escape") = some (.bool e)
  pos : e = true → 1 ≤ i ∧ ∃ t', m (Str.ofString "pos") = some (.int ((i - 1 : Nat) : Int) t')
  en : ∃ old, IsEnum s₁.heap en it i old
  it : s₁.heap.IsStrIter it (strIterType x) x t i
  pre : ∃ pre, items = pre ++ escL i e (x.cps.toList.drop i)

theorem fr_known {h₀ h : Heap} {C : Addr} {m : Str → Option Value} {k : Str} {v : Value} (F : Fr h₀ C h m) (hm : m k = some v) : Fr h₀ C h (fun y => if y = k then some v else m y) := by
  have e : (fun y => if y = k then some v else m y) = m := by
    funext y
    split
    · rename_i h; rw [h, hm]
    · rfl
  rw [e]; exact F
theorem fr_but {h₀ h h' : Heap} {C en it : Addr} {m : Str → Option Value} (F : Fr h₀ C h m) (heC : en ≠ C) (hiC : it ≠ C) (heB : C ≤ en) (hiB : C ≤ it) (k : ∀ b o, b ∉ [en, it] → h.get? b = some o → h'.get? b = some o) : Fr h₀ C h' m :=
  ⟨F.ns.at' fun o e => k _ _ (by simp; exact ⟨fun q => heC q.symm, fun q => hiC q.symm⟩) e, fun b o e => k b o (by
    have := Nat.lt_of_lt_of_le (Heap.lt_size e) F.above
    simp only [List.mem_cons, List.not_mem_nil, or_false, not_or]
    exact ⟨Nat.ne_of_lt (Nat.lt_of_lt_of_le this heB), Nat.ne_of_lt (Nat.lt_of_lt_of_le this hiB)⟩) (F.keep b o e), F.above⟩
theorem news_but {h₀ h h' hb : Heap} {C a en it : Addr} (N : News h₀ C h (lowOf h₀ C a hb)) (hea : en ≠ a) (hia : it ≠ a) (heB : C ≤ en) (hiB : C ≤ it) (k : ∀ b o, b ∉ [en, it] → h.get? b = some o → h'.get? b = some o) : News h₀ C h' (lowOf h₀ C a hb) := fun p hp => by
  obtain ⟨h1, h2, _⟩ := mem_low.mp hp
  refine ⟨k _ _ ?_ (N p hp).1, (N p hp).2⟩
  simp only [List.mem_cons, List.not_mem_nil, or_false, not_or]
  rcases h1 with h1 | h1
  · exact ⟨Nat.ne_of_lt (Nat.lt_of_lt_of_le h1 heB), Nat.ne_of_lt (Nat.lt_of_lt_of_le h1 hiB)⟩
  · rw [h1]; exact ⟨hea.symm, hia.symm⟩

theorem gen_loop {prog : Program} {w : World} {A : Around} {bd : List Stmt} {nm : Str} {sc : Scope} {f : Addr} {cd : Value} {fr : List Frame} {p1 p2 p3 : Pos} {k0 : Nat} {h₀ : Heap} {C a : Nat} {x : Str} {t : Tok} {en it : Addr} {items : List (Nat × List Nat)}
    (hh : A.handled = none) (hfr : (marksOver fr (none, none)).1 = none) (hei : en ≠ it) (heC : en ≠ C) (hiC : it ≠ C) (hea : en ≠ a) (hia : it ≠ a) (heB : C ≤ en) (hiB : C ≤ it) (hk : sc.kind = .function)
    (hpos : sc.names.lookup (Str.ofString "pos") = some .local) (hch : sc.names.lookup (Str.ofString "ch") = some .local)
    (turn : ∀ (i c : Nat) (e : Bool) (s₀ s₁ : Shared) (m : Str → Option Value) (t' u' : Tok), x.cps[i]? = some c →
      (∀ e' s₀' s₁' m', GS h₀ C a x t en it items (i + 1) e' s₀' s₁' m' → Seg (model prog w) A (gR C a) (gY h₀ C a items) (escL (i + 1) e' (x.cps.toList.drop (i + 1))).length s₀'
        (.forLoop (.Tuple [.Name (Str.ofString "pos") p1, .Name (Str.ofString "ch") p2] k0 p3) (.ref en) bd [] (envOf nm sc C f cd)) ((model prog w).den (.forLoop (.Tuple [.Name (Str.ofString "pos") p1, .Name (Str.ofString "ch") p2] k0 p3) (.ref en) bd [] (envOf nm sc C f cd))) fr s₁') →
      (∀ b o, h₀.get? b = some o → s₀.heap.get? b = some o) → Fr h₀ C s₁.heap (fun y => if y = Str.ofString "ch" then some (.str ⟨#[c]⟩ u') else if y = Str.ofString "pos" then some (.int (i : Int) t') else m y) →
      News h₀ C s₁.heap (lowOf h₀ C a s₀.heap) → (∃ h tk, s₁ = { s₀ with heap := h, toks := tk }) → m (Str.ofString "escape") = some (.bool e) → (∃ old, IsEnum s₁.heap en it ((i + 1 : Nat) : Int) old) → s₁.heap.IsStrIter it (strIterType x) x t (i + 1) →
      (∃ pre, items = pre ++ escL i e (c :: x.cps.toList.drop (i + 1))) →
      Seg (model prog w) A (gR C a) (gY h₀ C a items) (escL i e (c :: x.cps.toList.drop (i + 1))).length s₀ (.forLoop (.Tuple [.Name (Str.ofString "pos") p1, .Name (Str.ofString "ch") p2] k0 p3) (.ref en) bd [] (envOf nm sc C f cd))
        ((execs bd (envOf nm sc C f cd)).wrap (kLoop (.Tuple [.Name (Str.ofString "pos") p1, .Name (Str.ofString "ch") p2] k0 p3) (.ref en) bd [] (envOf nm sc C f cd)) (hLoop (envOf nm sc C f cd)) id id) fr s₁)
    (fin : ∀ (e : Bool) (s₀ s₁ : Shared) (m : Str → Option Value), (∀ b o, h₀.get? b = some o → s₀.heap.get? b = some o) → Fr h₀ C s₁.heap m → News h₀ C s₁.heap (lowOf h₀ C a s₀.heap) → (∃ h tk, s₁ = { s₀ with heap := h, toks := tk }) → m (Str.ofString "escape") = some (.bool e) →
      (e = true → 1 ≤ x.cps.size ∧ ∃ t', m (Str.ofString "pos") = some (.int ((x.cps.size - 1 : Nat) : Int) t')) → (∃ pre, items = pre ++ escL x.cps.size e []) → Seg (model prog w) A (gR C a) (gY h₀ C a items) (escL x.cps.size e []).length s₀ (.block [] (envOf nm sc C f cd)) (leafOf (.ok .next)) fr s₁) :
    ∀ (k i : Nat) (e : Bool) (s₀ s₁ : Shared) (m : Str → Option Value), x.cps.size - i = k → GS h₀ C a x t en it items i e s₀ s₁ m →
      Seg (model prog w) A (gR C a) (gY h₀ C a items) (escL i e (x.cps.toList.drop i)).length s₀ (.forLoop (.Tuple [.Name (Str.ofString "pos") p1, .Name (Str.ofString "ch") p2] k0 p3) (.ref en) bd [] (envOf nm sc C f cd))
        ((model prog w).den (.forLoop (.Tuple [.Name (Str.ofString "pos") p1, .Name (Str.ofString "ch") p2] k0 p3) (.ref en) bd [] (envOf nm sc C f cd))) fr s₁ := by
  intro k
  induction k with
  | zero =>
    intro i e s₀ s₁ m hik G
    have hi : i = x.cps.size := by have := G.le; omega
    subst hi
    refine seg_forLoop ?_
    have hh' : (A.over (.forLoop (.Tuple [.Name (Str.ofString "pos") p1, .Name (Str.ofString "ch") p2] k0 p3) (.ref en) bd [] (envOf nm sc C f cd)) fr).handled = none := by
      show (marksOver fr (A.handled, A.handled)).1 = none
      rw [hh]; exact hfr
    have W := WalksT.enumerateD (draws_str (prog := prog) (w := w) (A := (A.over (.forLoop (.Tuple [.Name (Str.ofString "pos") p1, .Name (Str.ofString "ch") p2] k0 p3) (.ref en) bd [] (envOf nm sc C f cd)) fr).in1) hh' it x t) en hei (by simpa using hei) (by simp)
    refine W.done s₁ _ _ ⟨G.en, G.it⟩ fun h' tk hk' => ?_
    have e0 : x.cps.toList.drop x.cps.size = [] := by simp
    have hp := G.pre
    rw [e0] at hp ⊢
    obtain ⟨hq, tq, rfl⟩ := G.sh
    exact fin e s₀ _ m G.k₀ (fr_but G.F heC hiC heB hiB hk') (news_but G.N hea hia heB hiB hk') ⟨_, _, rfl⟩ G.esc G.pos hp
  | succ k ih =>
    intro i e s₀ s₁ m hik G
    have hi : i < x.cps.size := by omega
    refine seg_forLoop ?_
    have hh' : (A.over (.forLoop (.Tuple [.Name (Str.ofString "pos") p1, .Name (Str.ofString "ch") p2] k0 p3) (.ref en) bd [] (envOf nm sc C f cd)) fr).handled = none := by
      show (marksOver fr (A.handled, A.handled)).1 = none
      rw [hh]; exact hfr
    have W := WalksT.enumerateD (draws_str (prog := prog) (w := w) (A := (A.over (.forLoop (.Tuple [.Name (Str.ofString "pos") p1, .Name (Str.ofString "ch") p2] k0 p3) (.ref en) bd [] (envOf nm sc C f cd)) fr).in1) hh' it x t) en hei (by simpa using hei) (by simp)
    refine W.item i s₁ _ _ hi ⟨G.en, G.it⟩ fun T vals h' tk hP hT ht hm hk' => ?_
    obtain ⟨t', v, ⟨c, u', hc, rfl⟩, rfl⟩ := hP
    have F₁ := fr_but G.F heC hiC heB hiB hk'
    have N₁ := news_but G.N hea hia heB hiB hk'
    refine W.go _ _ _ i T _ _ _ hm fun h₂ hst hk₂ => ?_
    have F₂ := fr_but F₁ heC hiC heB hiB hk₂
    have N₂ := news_but N₁ hea hia heB hiB hk₂
    have ht₂ : h₂.IsTuple T #[.int (i : Int) t', .str ⟨#[c]⟩ u'] := ht.at fun o e => hk₂ _ _ (W.apart _ _ _ hm) e
    refine wpAny_assign_Tuple hh' ht₂ rfl rfl fun h₃ hx₃ => ?_
    have k₃ : ∀ b o, h₂.get? b = some o → h₃.get? b = some o := fun b o e => hx₃ b o (Nat.ne_of_lt (Heap.lt_size e)) e
    have F₃ := Fr.keeps F₂ k₃
    have N₃ := News.grown N₂ k₃
    obtain ⟨hq, tq, rfl⟩ := G.sh
    obtain ⟨⟨old, q1⟩, o2, q2, r2⟩ := hst
    have none_of : ∀ b, C ≤ b → h₀.get? b = none := fun b hb => by
      cases hq : h₀.get? b with
      | none => rfl
      | some o => exact absurd (Nat.lt_of_lt_of_le (Heap.lt_size hq) G.F.above) (Nat.not_lt.mpr hb)
    have N₃' : News h₀ C h₃ ((en, _) :: (it, o2) :: lowOf h₀ C a s₀.heap) := fun p hp => by
      rcases List.mem_cons.mp hp with rfl | hp
      · exact ⟨k₃ _ _ q1, heC, none_of _ heB⟩
      · rcases List.mem_cons.mp hp with rfl | hp
        · exact ⟨k₃ _ _ q2, hiC, none_of _ hiB⟩
        · exact N₃ p hp
    refine wpAny_bind (wpAny_holding (wpAny_assign_Name (stN F₃ N₃' (fun h₄ F₄ N₄ => ?_) hk hpos)))
    refine wpAny_bind (wpAny_holding (wpAny_assign_Name (stN F₄ N₄ (fun h₅ F₅ N₅ => wpAny_pure ?_) hk hch)))
    have ed := drop_at (text := x.cps) hi
    have ec : x.cps.getD i 0 = c := by
      have : x.cps.getD i 0 = x.cps[i] := by simp [hi]
      rw [this]
      rw [Array.getElem?_eq_getElem hi] at hc
      exact Option.some.inj hc
    have hp := G.pre
    rw [ed, ec] at hp ⊢
    exact turn i c e s₀ _ m t' u' hc (fun e' s₀' s₁' m' G' => ih (i + 1) e' s₀' s₁' m' (by omega) G') G.k₀ F₅ (fun p hp => N₅ p (List.mem_cons_of_mem _ (List.mem_cons_of_mem _ hp))) ⟨_, _, rfl⟩ G.esc ⟨old, (N₅ _ (.head _)).1⟩ ⟨o2, (N₅ _ (.tail _ (.head _))).1, r2⟩ hp
theorem yield_end {h₀ h' : Heap} {C a D : Nat} {items rest pre : List (Nat × List Nat)} {p : Nat × List Nat} {s₀ : Shared} {tk : Nat} {m : Str → Option Value} {more : List (Addr × Obj)} {S : Str} {t t' : Tok} {kap : Resume → Shared → Prop}
    (hpre : items = pre ++ p :: rest) (k₀ : ∀ b o, h₀.get? b = some o → s₀.heap.get? b = some o) (F : Fr h₀ C h' m) (N : News h₀ C h' ((D, { cls := .type "tuple", data := .seq #[.int (p.1 : Int) t, .str S t'] }) :: (more ++ lowOf h₀ C a s₀.heap)))
    (hS : S = mkS p.2) (hD : C ≤ D)
    (h : ∀ s'' : Shared, (∀ b o, C ≤ b → h'.get? b = some o → s''.heap.get? b = some o) → (∀ b o, h₀.get? b = some o → s''.heap.get? b = some o) → kap (.send .none) s'') :
    gY h₀ C a items rest.length s₀ (.ref D) { s₀ with heap := h', toks := tk } kap := by
  subst hS
  refine ⟨⟨p, ?_, ⟨D, t, t', rfl, _, (N _ (.head _)).1, rfl, _, rfl⟩, fun T e => by cases e; exact hD⟩, ⟨h', tk, rfl, ?_⟩, h⟩
  · have e : items.length - 1 - rest.length = pre.length := by rw [hpre, List.length_append, List.length_cons]; omega
    rw [e, hpre]; simp
  · exact low_since k₀ F.keep (fun q hq => N q (List.mem_cons_of_mem _ (List.mem_append_right _ hq)))

theorem gs_again {h₀ h' : Heap} {C a : Nat} {x : Str} {t : Tok} {it : Nat} {items : List (Nat × List Nat)} {i : Nat} {e : Bool} {s₀ s₁ : Shared} {m : Str → Option Value} {o2 : Obj} {old : Value} {more : List (Addr × Obj)} {tk : Nat}
    (le : i + 1 ≤ x.cps.size) (k₀ : ∀ b o, h₀.get? b = some o → s₀.heap.get? b = some o) (F : Fr h₀ C h' m)
    (N : News h₀ C h' (more ++ (it + 1, { cls := .type "enumerate", dict := none, data := .fields #[.none, .bool false, .ref it, rawInt ((i + 1 : Nat) : Int), .none, old], slots := #[] }) :: (it, o2) :: lowOf h₀ C a s₀.heap))
    (r2 : o2.cls = Value.type (strIterType x) ∧ o2.data = .fields #[.str x t, .int ((i + 1 : Nat) : Int) 0]) (hs : s₁ = { s₀ with heap := h', toks := tk })
    (esc : m (Str.ofString "escape") = some (.bool e)) (pos : e = true → ∃ t', m (Str.ofString "pos") = some (.int (i : Int) t')) (hpre : ∃ pre, items = pre ++ escL (i + 1) e (x.cps.toList.drop (i + 1))) :
    GS h₀ C a x t (it + 1) it items (i + 1) e s₀ s₁ m := by
  subst hs
  exact ⟨le, k₀, F, fun q hq => N q (List.mem_append_right _ (List.mem_cons_of_mem _ (List.mem_cons_of_mem _ hq))), ⟨h', tk, rfl⟩, esc, fun he => ⟨by omega, by obtain ⟨t', q⟩ := pos he; exact ⟨t', q⟩⟩,
    ⟨old, (N _ (List.mem_append_right _ (.head _))).1⟩, ⟨o2, (N _ (List.mem_append_right _ (.tail _ (.head _)))).1, r2⟩, hpre⟩

/-- what holds of the generator's own things when it is woken -/
theorem awake {h₀ h' : Heap} {C a : Nat} {it : Nat} {m : Str → Option Value} {eo o2 : Obj} {s'' : Shared} {L : List (Addr × Obj)} (hB : h₀.objs.size ≤ C) (haC : a ≠ C) (hC1 : C < it) (F : Fr h₀ C h' m) (N : News h₀ C h' L) (m1 : (it + 1, eo) ∈ L) (m2 : (it, o2) ∈ L)
    (hhi : ∀ b o, C ≤ b → h'.get? b = some o → s''.heap.get? b = some o) (hlo : ∀ b o, h₀.get? b = some o → s''.heap.get? b = some o) :
    Fr h₀ C s''.heap m ∧ News h₀ C s''.heap ((it + 1, eo) :: (it, o2) :: lowOf h₀ C a s''.heap) := by
  refine ⟨⟨F.ns.at' fun o e => hhi _ _ (Nat.le_refl _) e, hlo, hB⟩, fun p hp => ?_⟩
  rcases List.mem_cons.mp hp with rfl | hp
  · exact ⟨hhi _ _ (by show C ≤ it + 1; omega) (N _ m1).1, (N _ m1).2⟩
  · rcases List.mem_cons.mp hp with rfl | hp
    · exact ⟨hhi _ _ (by show C ≤ it; omega) (N _ m2).1, (N _ m2).2⟩
    · exact low_news (Nat.le_refl _) haC p hp

section
variable {w : World} {A : Around} {s : Shared} {p : Program} {loose : List Str} {mean : ExcName → Option Value} {mg mb : Str → Option Value}

theorem newTuple_C {M : Model} {E : Value → Shared → Prop} {h₀ : Heap} {L : Addr} {m : Str → Option Value} {news : List (Addr × Obj)} {vs : List Value} {Q : Value → Shared → Prop} (F : Fr h₀ L s.heap m) (N : News h₀ L s.heap news)
    (h : ∀ D h', Fr h₀ L h' m → News h₀ L h' ((D, { cls := .type "tuple", data := .seq vs.toArray }) :: news) → L < D → Q (.ref D) { s with heap := h' }) (hsz : vs.length ≤ sizeLine := by size_fits) :
    wpAny M A (newTuple vs) Q E s := newTuple_N F N (fun h' F' N' => h _ h' F' N' F.ns.lt) hsz

end
section
namespace kgen_spec
noncomputable abbrev V := (World) × (Around) × (Shared) × (Program) × (List Str) × (ExcName → Option Value) × (Str → Option Value) × (Str → Option Value) × (Str) × (Tok) × (Heap)
noncomputable def P (v : V) : Prop :=
  (fun (w : World) (A : Around) (s : Shared) (p : Program) (loose : List Str) (mean : ExcName → Option Value) (mg : Str → Option Value) (mb : Str → Option Value) (x : Str) (t : Tok) (h₀ : Heap) =>
  ∀ (X : (hd.heap_39 w.params).In h₀) (T : Top p loose mean mg mb h₀) (k₀ : ∀ b o, h₀.get? b = some o → s.heap.get? b = some o) (hB : h₀.objs.size ≤ s.heap.objs.size) (hroom : A.depth < recursionLimit), codeAny (model PySem.Challenge.rw_rs0108_01.row.prog w) A (.call (.ref 38) ⟨[.str x t], []⟩) (fun r s' => ∃ a h' tk gs, r = .ok (.ret (.ref a)) ∧ s' = { s with heap := h', toks := tk, gens := s.gens.push gs } ∧ gs.bare = true ∧ (∀ b o, s.heap.get? b = some o → h'.get? b = some o) ∧
      ∀ A₂ : Around, A₂.handled = none → GenP PySem.Challenge.rw_rs0108_01.row.prog w A₂ h₀ s.heap.objs.size a s.gens.size (escL 0 false x.cps.toList) 0 s') s)
    v.1 v.2.1 v.2.2.1 v.2.2.2.1 v.2.2.2.2.1 v.2.2.2.2.2.1 v.2.2.2.2.2.2.1 v.2.2.2.2.2.2.2.1 v.2.2.2.2.2.2.2.2.1 v.2.2.2.2.2.2.2.2.2.1 v.2.2.2.2.2.2.2.2.2.2
@[irreducible] noncomputable def v0 : V := @Classical.epsilon V ⟨(aW, callerA, {}, PySem.Challenge.rw_rs0108_01.row.prog, [], fun _ => none, fun _ => none, fun _ => none, ⟨#[]⟩, 0, {})⟩ fun v => ¬ P v
noncomputable def w : World := v0.1
noncomputable def A : Around := v0.2.1
noncomputable def s : Shared := v0.2.2.1
noncomputable def p : Program := v0.2.2.2.1
noncomputable def loose : List Str := v0.2.2.2.2.1
noncomputable def mean : ExcName → Option Value := v0.2.2.2.2.2.1
noncomputable def mg : Str → Option Value := v0.2.2.2.2.2.2.1
noncomputable def mb : Str → Option Value := v0.2.2.2.2.2.2.2.1
noncomputable def x : Str := v0.2.2.2.2.2.2.2.2.1
noncomputable def t : Tok := v0.2.2.2.2.2.2.2.2.2.1
noncomputable def h₀ : Heap := v0.2.2.2.2.2.2.2.2.2.2
set_option maxHeartbeats 8000000 in
theorem main (X : (hd.heap_39 w.params).In h₀) (T : Top p loose mean mg mb h₀) (k₀ : ∀ b o, h₀.get? b = some o → s.heap.get? b = some o) (hB : h₀.objs.size ≤ s.heap.objs.size) (hroom : A.depth < recursionLimit) :
    codeAny (model PySem.Challenge.rw_rs0108_01.row.prog w) A (.call (.ref 38) ⟨[.str x t], []⟩) (fun r s' => ∃ a h' tk gs, r = .ok (.ret (.ref a)) ∧ s' = { s with heap := h', toks := tk, gens := s.gens.push gs } ∧ gs.bare = true ∧ (∀ b o, s.heap.get? b = some o → h'.get? b = some o) ∧
      ∀ A₂ : Around, A₂.handled = none → GenP PySem.Challenge.rw_rs0108_01.row.prog w A₂ h₀ s.heap.objs.size a s.gens.size (escL 0 false x.cps.toList) 0 s') s := by
  w_top off
  revert X
  k_fill
  intro X
  refine enterGen (binds := [(Str.ofString "addr", .str x t)]) (X.keeps k₀) (T.nolimit.keeps k₀) (by k_is) (by k_is) hroom rfl rfl ?_ (by decide) rfl rfl rfl
  intro h₁ t1 t2 tk F hsz
  refine ⟨_, _, _, _, rfl, rfl, rfl, fun b o e => Heap.get?_push_of_some _ (F.keep b o e), fun A₂ hA => ⟨by omega, ⟨_, _, _, Heap.get?_push_size _ rfl, rfl, rfl, rfl⟩, _, Array.getElem?_push_size .., rfl, fun s'' hhi hlo => ⟨rfl, ?_⟩⟩⟩
  have F₁ : Fr h₀ s.heap.objs.size s''.heap (fun y => [(Str.ofString "addr", Value.str x t)].reverse.lookup y) :=
    ⟨F.ns.at' fun o e => hhi _ _ (Nat.le_refl _) (Heap.get?_push_of_some _ e), hlo, hB⟩
  have ha : ∃ o, s''.heap.get? h₁.objs.size = some o := ⟨_, hhi _ _ (by omega) (Heap.get?_push_size _ rfl)⟩
  clear hhi F
  have hh : A₂.in1.handled = none := hA
  generalize A₂.in1 = A₃ at hh ⊢
  clear hA
  have haC : h₁.objs.size ≠ s.heap.objs.size := by omega
  have haC' : s.heap.objs.size < h₁.objs.size := by omega
  generalize h₁.objs.size = a at haC haC' ha ⊢
  clear hsz
  have N₁ : News h₀ s.heap.objs.size s''.heap (lowOf h₀ s.heap.objs.size a s''.heap) := low_news (Nat.le_refl _) haC
  generalize hC : s.heap.objs.size = C at *
  obtain ⟨oa, ha⟩ := ha
  have ham : (a, oa) ∈ lowOf h₀ C a s''.heap := mem_low.mpr ⟨.inr rfl, by
    cases hq : h₀.get? a with
    | none => rfl
    | some o => exact absurd (Nat.lt_of_lt_of_le (Heap.lt_size hq) hB) (by show ¬ a < C; omega), ha⟩
  rw [Nat.sub_zero]
  refine seg_func ?_
  refine seg_execs_cons (seg_plain ?_)
  repeat' (first | with_reducible (show wpAny _ _ (call (.type "enumerate") _ _) _ _ _; refine call_enumerate_str ?_; intro _ _ _ _ k'; have _ := Fr.keeps ‹_› k'; have _ := News.grown ‹_› k') | with_reducible (show wpAny _ _ (newTuple _) _ _ _; refine newTuple_C ‹_› ‹_› ?_; intro _ _ _ _ _) | walk1)
  dsimp only
  refine seg_execs_cons (seg_plain ?_)
  repeat' (first | with_reducible (show wpAny _ _ (call (.type "enumerate") _ _) _ _ _; refine call_enumerate_str ?_; intro _ _ _ _ k'; have _ := Fr.keeps ‹_› k'; have _ := News.grown ‹_› k') | with_reducible (show wpAny _ _ (newTuple _) _ _ _; refine newTuple_C ‹_› ‹_› ?_; intro _ _ _ _ _) | walk1)
  dsimp only
  refine seg_execs_cons (seg_For ?_ (fun _ => rfl))
  repeat' (first | with_reducible (show wpAny _ _ (call (.type "enumerate") _ _) _ _ _; refine call_enumerate_str ?_; intro _ _ _ _ k'; have _ := Fr.keeps ‹_› k'; have _ := News.grown ‹_› k') | with_reducible (show wpAny _ _ (newTuple _) _ _ _; refine newTuple_C ‹_› ‹_› ?_; intro _ _ _ _ _) | walk1)
  rename_i hx F0 N0 h3 he hi hz F' N'
  have hC1 := F0.ns.lt
  have ha1 := Heap.lt_size (N0 _ ham).1
  refine wpAny_pyIter_enum he fun pp => ?_
  dsimp only at he hi ⊢
  clear F0 N0 hz k'
  generalize hx.objs.size = it at *
  have hC1 : C < it := hC1
  have ha1 : a < it := ha1
  refine gen_loop (items := escL 0 false x.cps.toList) hh rfl (by show it + 1 ≠ it; omega) (by show it + 1 ≠ C; omega) (by show it ≠ C; omega) (by show it + 1 ≠ a; omega) (by show it ≠ a; omega) (by show C ≤ it + 1; omega) (by show C ≤ it; omega) rfl rfl rfl ?_ ?_ x.cps.size 0 false s'' _ _ rfl ⟨by omega, hlo, F', N', ⟨_, _, rfl⟩, rfl, (fun h => by cases h), ⟨_, he⟩, hi, [], rfl⟩
  · clear he hi F' N' ham ha
    intro i c e s₀ s₁ m t' u' hc IH k₀' F N sh hesc hen hit hpre
    obtain ⟨hq, tq, rfl⟩ := sh
    obtain ⟨old, q1⟩ := hen
    obtain ⟨o2, q2, r2⟩ := hit
    have none_of : ∀ b, C ≤ b → h₀.get? b = none := fun b hb => by
      cases hq : h₀.get? b with
      | none => rfl
      | some o => exact absurd (Nat.lt_of_lt_of_le (Heap.lt_size hq) hB) (Nat.not_lt.mpr hb)
    have N : News h₀ C hq ((it + 1, _) :: (it, o2) :: lowOf h₀ C a s₀.heap) := fun p hp => by
      rcases List.mem_cons.mp hp with rfl | hp
      · exact ⟨q1, by show it + 1 ≠ C; omega, none_of _ (by show C ≤ it + 1; omega)⟩
      · rcases List.mem_cons.mp hp with rfl | hp
        · exact ⟨q2, by show it ≠ C; omega, none_of _ (by show C ≤ it; omega)⟩
        · exact N p hp
    clear q1 q2
    dsimp only at F
    cases e with
    | true =>
      have F := fr_known (k := Str.ofString "escape") (v := .bool true) F hesc
      refine seg_execs_cons (seg_If ?_)
      repeat' (first | with_reducible (show wpAny _ _ (call (.type "enumerate") _ _) _ _ _; refine call_enumerate_str ?_; intro _ _ _ _ k'; have _ := Fr.keeps ‹_› k'; have _ := News.grown ‹_› k') | with_reducible (show wpAny _ _ (newTuple _) _ _ _; refine newTuple_C ‹_› ‹_› ?_; intro _ _ _ _ _) | walk1)
      show Seg _ _ _ _ ((escL (i + 1) false (x.cps.toList.drop (i + 1))).length + 1) _ _ _ _ _
      refine seg_execs_cons (seg_Expr_Yield rfl rfl rfl ?_)
      repeat' (first | with_reducible (show wpAny _ _ (call (.type "enumerate") _ _) _ _ _; refine call_enumerate_str ?_; intro _ _ _ _ k'; have _ := Fr.keeps ‹_› k'; have _ := News.grown ‹_› k') | with_reducible (show wpAny _ _ (newTuple _) _ _ _; refine newTuple_C ‹_› ‹_› ?_; intro _ _ _ _ _) | walk1)
      rename_i D h' F' N' hD kap hkap
      obtain ⟨pre, hpre⟩ := hpre
      have hi : i < x.cps.size := (Array.getElem?_eq_some_iff.mp hc).1
      refine yield_end (p := (i, [92, c])) (more := [(it + 1, _), (it, o2)]) hpre k₀' F' N' ?_ ?_ ?_
      · rw [show Str.ofString "\\" = (⟨#[92]⟩ : Str) by decide +kernel]; rfl
      · exact Nat.le_of_lt hD
      · intro s2 hhi hlo
        refine hkap .none s2 ?_
        obtain ⟨F2, N2⟩ := awake (a := a) hB haC hC1 F' N' (.tail _ (.head _)) (.tail _ (.tail _ (.head _))) hhi hlo
        refine seg_execs_cons (seg_plain ?_)
        repeat' (first | with_reducible (show wpAny _ _ (call (.type "enumerate") _ _) _ _ _; refine call_enumerate_str ?_; intro _ _ _ _ k'; have _ := Fr.keeps ‹_› k'; have _ := News.grown ‹_› k') | with_reducible (show wpAny _ _ (newTuple _) _ _ _; refine newTuple_C ‹_› ‹_› ?_; intro _ _ _ _ _) | walk1)
        rename_i h5 F5 N5
        refine seg_again rfl (IH false s2 _ _ (gs_again (more := []) (by omega) hlo F5 N5 r2 rfl rfl (fun h => by cases h) ⟨pre ++ [(i, [92, c])], ?_⟩))
        rw [hpre, List.append_assoc]; rfl
    | false =>
      have F := fr_known (k := Str.ofString "escape") (v := .bool false) F hesc
      have hi : i < x.cps.size := (Array.getElem?_eq_some_iff.mp hc).1
      refine seg_execs_cons (seg_If ?_)
      repeat' (first | with_reducible (show wpAny _ _ (call (.type "enumerate") _ _) _ _ _; refine call_enumerate_str ?_; intro _ _ _ _ k'; have _ := Fr.keeps ‹_› k'; have _ := News.grown ‹_› k') | with_reducible (show wpAny _ _ (newTuple _) _ _ _; refine newTuple_C ‹_› ‹_› ?_; intro _ _ _ _ _) | walk1)
      refine seg_execs_cons (seg_If ?_)
      repeat' (first | with_reducible (show wpAny _ _ (call (.type "enumerate") _ _) _ _ _; refine call_enumerate_str ?_; intro _ _ _ _ k'; have _ := Fr.keeps ‹_› k'; have _ := News.grown ‹_› k') | with_reducible (show wpAny _ _ (newTuple _) _ _ _; refine newTuple_C ‹_› ‹_› ?_; intro _ _ _ _ _) | walk1)
      · rename_i hc92
        have hc92 : c = 92 := by
          rw [show Str.ofString "\\" = (⟨#[92]⟩ : Str) by decide +kernel] at hc92
          have := eq_of_beq hc92
          simpa using this
        have el : ∀ r, escL i false (c :: r) = escL (i + 1) true r := fun r => by rw [escL, if_pos hc92]
        rw [el] at hpre ⊢
        refine seg_execs_cons (seg_plain ?_)
        repeat' (first | with_reducible (show wpAny _ _ (call (.type "enumerate") _ _) _ _ _; refine call_enumerate_str ?_; intro _ _ _ _ k'; have _ := Fr.keeps ‹_› k'; have _ := News.grown ‹_› k') | with_reducible (show wpAny _ _ (newTuple _) _ _ _; refine newTuple_C ‹_› ‹_› ?_; intro _ _ _ _ _) | walk1)
        rename_i h5 F5 N5
        exact seg_again rfl (IH true s₀ _ _ (gs_again (more := []) (by omega) k₀' F5 N5 r2 rfl rfl (fun _ => ⟨t', rfl⟩) hpre))
      · rename_i hc92
        have hc92 : c ≠ 92 := by
          intro q
          rw [show Str.ofString "\\" = (⟨#[92]⟩ : Str) by decide +kernel, q] at hc92
          exact absurd hc92 (by decide)
        have el : ∀ r, escL i false (c :: r) = (i, [c]) :: escL (i + 1) false r := fun r => by rw [escL, if_neg hc92]
        rw [el] at hpre ⊢
        rw [List.length_cons]
        refine seg_execs_cons (seg_Expr_Yield rfl rfl rfl ?_)
        repeat' (first | with_reducible (show wpAny _ _ (call (.type "enumerate") _ _) _ _ _; refine call_enumerate_str ?_; intro _ _ _ _ k'; have _ := Fr.keeps ‹_› k'; have _ := News.grown ‹_› k') | with_reducible (show wpAny _ _ (newTuple _) _ _ _; refine newTuple_C ‹_› ‹_› ?_; intro _ _ _ _ _) | walk1)
        rename_i D h' F' N' hD kap hkap
        obtain ⟨pre, hpre⟩ := hpre
        refine yield_end (p := (i, [c])) (more := [(it + 1, _), (it, o2)]) hpre k₀' F' N' rfl ?_ ?_
        · exact Nat.le_of_lt hD
        · intro s2 hhi hlo
          refine hkap .none s2 ?_
          obtain ⟨F2, N2⟩ := awake (a := a) hB haC hC1 F' N' (.tail _ (.head _)) (.tail _ (.tail _ (.head _))) hhi hlo
          refine seg_again rfl (IH false s2 _ _ (gs_again (more := []) (by omega) hlo F2 N2 r2 rfl rfl (fun h => by cases h) ⟨pre ++ [(i, [c])], ?_⟩))
          rw [hpre, List.append_assoc]; rfl
  · clear he hi F' N' ham ha
    intro e s₀ s₁ m k₀' F N sh hesc hpos hpre
    obtain ⟨hq, tq, rfl⟩ := sh
    refine seg_leaf (.ok .next) ?_
    cases e with
    | true =>
      obtain ⟨h1, t', hpos⟩ := hpos rfl
      have F := fr_known (k := Str.ofString "escape") (v := .bool true) (fr_known F hpos) hesc
      refine seg_execs_cons (seg_If ?_)
      repeat' (first | with_reducible (show wpAny _ _ (call (.type "enumerate") _ _) _ _ _; refine call_enumerate_str ?_; intro _ _ _ _ k'; have _ := Fr.keeps ‹_› k'; have _ := News.grown ‹_› k') | with_reducible (show wpAny _ _ (newTuple _) _ _ _; refine newTuple_C ‹_› ‹_› ?_; intro _ _ _ _ _) | walk1)
      show Seg _ _ _ _ (0 + 1) _ _ _ _ _
      refine seg_execs_cons (seg_Expr_Yield rfl rfl rfl ?_)
      repeat' (first | with_reducible (show wpAny _ _ (call (.type "enumerate") _ _) _ _ _; refine call_enumerate_str ?_; intro _ _ _ _ k'; have _ := Fr.keeps ‹_› k'; have _ := News.grown ‹_› k') | with_reducible (show wpAny _ _ (newTuple _) _ _ _; refine newTuple_C ‹_› ‹_› ?_; intro _ _ _ _ _) | walk1)
      rename_i D h' F' N' hD kap hkap
      obtain ⟨pre, hpre⟩ := hpre
      refine yield_end (p := (x.cps.size - 1, [92])) (rest := []) (more := []) hpre k₀' F' N' ?_ ?_ ?_
      · exact (by decide +kernel : Str.ofString "\\" = mkS [92])
      · exact Nat.le_of_lt hD
      · intro s2 hhi hlo
        refine hkap .none s2 ?_
        exact seg_end (.ok (.ret .none)) ⟨rfl, rfl, _, _, rfl, fun _ _ _ e => e⟩
    | false =>
      have F := fr_known F hesc
      refine seg_execs_cons (seg_If ?_)
      repeat' (first | with_reducible (show wpAny _ _ (call (.type "enumerate") _ _) _ _ _; refine call_enumerate_str ?_; intro _ _ _ _ k'; have _ := Fr.keeps ‹_› k'; have _ := News.grown ‹_› k') | with_reducible (show wpAny _ _ (newTuple _) _ _ _; refine newTuple_C ‹_› ‹_› ?_; intro _ _ _ _ _) | walk1)
      exact seg_end (.ok (.ret .none)) ⟨rfl, rfl, hq, tq, rfl, low_since k₀' F.keep N⟩
theorem all (v : V) : P v := byEps (v0 := v0) (by unfold v0; rfl) main v
end kgen_spec
theorem gen_spec {w : World} {A : Around} {s : Shared} {p : Program} {loose : List Str} {mean : ExcName → Option Value} {mg : Str → Option Value} {mb : Str → Option Value} {x : Str} {t : Tok} {h₀ : Heap} (X : (hd.heap_39 w.params).In h₀) (T : Top p loose mean mg mb h₀) (k₀ : ∀ b o, h₀.get? b = some o → s.heap.get? b = some o) (hB : h₀.objs.size ≤ s.heap.objs.size) (hroom : A.depth < recursionLimit) :
    codeAny (model PySem.Challenge.rw_rs0108_01.row.prog w) A (.call (.ref 38) ⟨[.str x t], []⟩) (fun r s' => ∃ a h' tk gs, r = .ok (.ret (.ref a)) ∧ s' = { s with heap := h', toks := tk, gens := s.gens.push gs } ∧ gs.bare = true ∧ (∀ b o, s.heap.get? b = some o → h'.get? b = some o) ∧
      ∀ A₂ : Around, A₂.handled = none → GenP PySem.Challenge.rw_rs0108_01.row.prog w A₂ h₀ s.heap.objs.size a s.gens.size (escL 0 false x.cps.toList) 0 s') s := kgen_spec.all (w, A, s, p, loose, mean, mg, mb, x, t, h₀) X T k₀ hB hroom
end
end Mine
end
-- part Spec1
section
open PySem PySem.W PySem.Calls PyProof.Rows
namespace Mine

section
variable {w : World} {A : Around} {s : Shared} {p : Program} {loose : List Str} {mean : ExcName → Option Value} {mg mb : Str → Option Value}

theorem pat3 {h : Heap} (X : (hd.heap_39 w.params).In h) : PatAt h 102 101 C3 0 := 
  ⟨⟨_, _, _, _, X 102 _ rfl⟩, _, _, X 101 _ rfl, by decide +kernel⟩
theorem pat1 {h : Heap} (X : (hd.heap_39 w.params).In h) : PatAt h 92 91 C1 0 := 
  ⟨⟨_, _, _, _, X 92 _ rfl⟩, _, _, X 91 _ rfl, by decide +kernel⟩
theorem pat2 {h : Heap} (X : (hd.heap_39 w.params).In h) : PatAt h 97 96 C1 1 := 
  ⟨⟨_, _, _, _, X 97 _ rfl⟩, _, _, X 96 _ rfl, by decide +kernel⟩

theorem meth_pat {M : Model} {E : Value → Shared → Prop} {P C : Addr} {code : Array Nat} {kind : Nat} {pl : Sem Bool} {Q : Value × List Value → Shared → Prop} (hP : PatAt s.heap P C code kind) (h : Q (.builtin "re.Pattern.sub", [.ref P]) s) :
    wpAny M A (getMethod (.ref P) (Str.ofString "sub") pl) Q E s := by
  obtain ⟨a, b, t0, t1, e⟩ := hP.pat
  exact getMethod_builtin (T := "re.Pattern") ⟨_, e, rfl⟩ plain_pat slot_pat_sub type_pat_sub (fun a ha => by cases ha; exact ⟨_, e, rfl⟩) h

theorem sub3 {prog : Program} {x : Str} {t u : Tok} {E : Value → Shared → Prop} {Q : Value → Shared → Prop} (hP : PatAt s.heap 102 101 C3 0) (hx : x.cps.size ≤ 300000)
    (h : ∀ h' tk t', (∀ b o, s.heap.get? b = some o → h'.get? b = some o) → Q (.str (mkS (fixL x.cps.toList)) t') { s with heap := h', toks := tk }) :
    wpAny (model prog w) A (call (.builtin "re.Pattern.sub") [.ref 102, .str (Str.ofString "\r\n") u, .str x t]) Q E s := by
  have e : (Str.ofString "\r\n").cps = #[13, 10] := by decide +kernel
  refine sub_str hP (finds3 (text := x.cps)) (by decide +kernel) hx (by decide +kernel) fun h' tk t' k => ?_
  rw [e, join_flat, pcs_fix _ _ (by omega) (by omega)]
  exact h h' tk t' k
theorem sub1 {prog : Program} {x : Str} {t u : Tok} {E : Value → Shared → Prop} {Q : Value → Shared → Prop} (hP : PatAt s.heap 92 91 C1 0) (hx : x.cps.size ≤ 300000)
    (h : ∀ h' tk t', (∀ b o, s.heap.get? b = some o → h'.get? b = some o) → Q (.str (mkS (quoteL true x.cps.toList)) t') { s with heap := h', toks := tk }) :
    wpAny (model prog w) A (call (.builtin "re.Pattern.sub") [.ref 92, .str (Str.ofString "..") u, .str x t]) Q E s := by
  have e : (Str.ofString "..").cps = #[46, 46] := by decide +kernel
  refine sub_str hP (finds1 (text := x.cps) (by omega)) (by decide +kernel) hx (by decide +kernel) fun h' tk t' k => ?_
  rw [e, join_flat, pcs_quote (by omega) _ _ (by omega) (by omega)]
  exact h h' tk t' k
theorem sub2 {prog : Program} {x : Array UInt8} {t u : Tok} {E : Value → Shared → Prop} {Q : Value → Shared → Prop} (hP : PatAt s.heap 97 96 C1 1) (hx : x.size ≤ 300000)
    (h : ∀ h' tk t', (∀ b o, s.heap.get? b = some o → h'.get? b = some o) → Q (.bytes ((quoteL true (x.toList.map (·.toNat))).map (·.toUInt8)).toArray t') { s with heap := h', toks := tk }) :
    wpAny (model prog w) A (call (.builtin "re.Pattern.sub") [.ref 97, .bytes #[46, 46] u, .bytes x t]) Q E s := by
  refine sub_bytes (rn := #[46, 46]) hP rfl (by decide +kernel) (finds1 (text := x.map (·.toNat)) (by simp; omega)) (by decide) (by simpa using hx) (by decide +kernel) fun h' tk t' k => ?_
  rw [joined_flat, pcs_quote (by simp; omega) _ _ (by omega) (by omega)]
  have e : (x.map (·.toNat)).toList.drop 0 = x.toList.map (·.toNat) := by simp
  rw [e]
  exact h h' tk t' k


theorem fixL_length : ∀ l : List Nat, (fixL l).length ≤ 2 * l.length
  | [] => by simp [fixL]
  | [c] => by rw [fixL]; split <;> simp
  | c :: d :: r => by
    have h1 := fixL_length r
    have h2 := fixL_length (d :: r)
    rw [fixL]
    simp only [List.length_cons] at *
    split
    · split <;> simp only [List.length_cons] <;> omega
    · split <;> simp only [List.length_cons] <;> omega
theorem quoteL_length : ∀ (b : Bool) (l : List Nat), (quoteL b l).length ≤ 2 * l.length
  | _, [] => by simp [quoteL]
  | b, c :: r => by
    have h1 := quoteL_length (c == 10) r
    rw [quoteL, List.length_append, List.length_cons]
    split <;> simp only [List.length_cons, List.length_nil] <;> omega


set_option maxHeartbeats 8000000 in
theorem fix_spec {x : Str} {t : Tok} (X : (hd.heap_39 w.params).In s.heap) (T : Top p loose mean mg mb s.heap) (hroom : A.depth < recursionLimit) (hx : x.cps.size ≤ 100000) :
    codeAny (model PySem.Challenge.rw_rs0108_01.row.prog w) A (.call (.ref 123) ⟨[.str x t], []⟩) (Ret s fun v _ => ∃ t', v = .str (mkS (fixL x.cps.toList)) t') s := by
  w_top off
  revert X
  k_fill
  intro X
  refine enter0 (binds := [(Str.ofString "data", .str x t)]) X T (by k_is) (by k_is) hroom rfl rfl ?_ (by decide) rfl rfl rfl
  intro h₁ F N
  have hx' : x.cps.size ≤ 300000 := by omega
  repeat' (first | with_reducible (show wpAny _ _ (call (.builtin "re.Pattern.sub") _ _) _ _ _; first | (refine sub3 (pat3 (Frag.In.keeps ‹_› (Fr.keep ‹_›))) (by first | assumption | (show (List.toArray _).size ≤ _; simp only [List.size_toArray]; omega)) ?_; intro hZ tkZ tZ kZ; have FZ := Fr.keeps ‹_› kZ; have NZ := News.grown ‹_› kZ; clear kZ) | (refine sub1 (pat1 (Frag.In.keeps ‹_› (Fr.keep ‹_›))) (by first | assumption | (show (List.toArray _).size ≤ _; simp only [List.size_toArray]; omega)) ?_; intro hZ tkZ tZ kZ; have FZ := Fr.keeps ‹_› kZ; have NZ := News.grown ‹_› kZ; clear kZ) | (refine sub2 (pat2 (Frag.In.keeps ‹_› (Fr.keep ‹_›))) (by first | assumption | (show (List.toArray _).size ≤ _; simp only [List.size_toArray]; omega)) ?_; intro hZ tkZ tZ kZ; have FZ := Fr.keeps ‹_› kZ; have NZ := News.grown ‹_› kZ; clear kZ)) | with_reducible (refine meth_pat (pat2 (Frag.In.keeps ‹_› (Fr.keep ‹_›))) ?_) | with_reducible (refine meth_pat (pat1 (Frag.In.keeps ‹_› (Fr.keep ‹_›))) ?_) | with_reducible (refine meth_pat (pat3 (Frag.In.keeps ‹_› (Fr.keep ‹_›))) ?_) | walk1)
  rename Fr _ _ _ _ => F'
  exact ⟨_, _, _, rfl, rfl, F'.keep, _, rfl⟩

set_option maxHeartbeats 8000000 in
theorem quote_spec {x : Str} {t : Tok} (X : (hd.heap_39 w.params).In s.heap) (T : Top p loose mean mg mb s.heap) (hroom : A.depth < recursionLimit) (hx : x.cps.size ≤ 100000) :
    codeAny (model PySem.Challenge.rw_rs0108_01.row.prog w) A (.call (.ref 109) ⟨[.str x t], []⟩) (Ret s fun v _ => ∃ t', v = .str (mkS (quoteL true (fixL x.cps.toList))) t') s := by
  w_top off
  revert X
  k_fill
  intro X
  refine enter0 (binds := [(Str.ofString "data", .str x t)]) X T (by k_is) (by k_is) hroom rfl rfl ?_ (by decide) rfl rfl rfl
  intro h₁ F N
  have hx' : x.cps.size ≤ 300000 := by omega
  have hl : (fixL x.cps.toList).length ≤ 2 * x.cps.size := fixL_length x.cps.toList
  repeat' (first | with_reducible (show wpAny _ _ (call (.builtin "re.Pattern.sub") _ _) _ _ _; first | (refine sub3 (pat3 (Frag.In.keeps ‹_› (Fr.keep ‹_›))) (by first | assumption | (show (List.toArray _).size ≤ _; simp only [List.size_toArray]; omega)) ?_; intro hZ tkZ tZ kZ; have FZ := Fr.keeps ‹_› kZ; have NZ := News.grown ‹_› kZ; clear kZ) | (refine sub1 (pat1 (Frag.In.keeps ‹_› (Fr.keep ‹_›))) (by first | assumption | (show (List.toArray _).size ≤ _; simp only [List.size_toArray]; omega)) ?_; intro hZ tkZ tZ kZ; have FZ := Fr.keeps ‹_› kZ; have NZ := News.grown ‹_› kZ; clear kZ) | (refine sub2 (pat2 (Frag.In.keeps ‹_› (Fr.keep ‹_›))) (by first | assumption | (show (List.toArray _).size ≤ _; simp only [List.size_toArray]; omega)) ?_; intro hZ tkZ tZ kZ; have FZ := Fr.keeps ‹_› kZ; have NZ := News.grown ‹_› kZ; clear kZ)) | with_reducible (refine meth_pat (pat2 (Frag.In.keeps ‹_› (Fr.keep ‹_›))) ?_) | with_reducible (refine meth_pat (pat1 (Frag.In.keeps ‹_› (Fr.keep ‹_›))) ?_) | with_reducible (refine meth_pat (pat3 (Frag.In.keeps ‹_› (Fr.keep ‹_›))) ?_) | walk1)
  rename Fr _ _ _ _ => F'
  exact ⟨_, _, _, rfl, rfl, F'.keep, _, rfl⟩

set_option maxHeartbeats 8000000 in
theorem periods_spec {x : Array UInt8} {t : Tok} (X : (hd.heap_39 w.params).In s.heap) (T : Top p loose mean mg mb s.heap) (hroom : A.depth < recursionLimit) (hx : x.size ≤ 300000) :
    codeAny (model PySem.Challenge.rw_rs0108_01.row.prog w) A (.call (.ref 116) ⟨[.bytes x t], []⟩) (Ret s fun v _ => ∃ t', v = .bytes ((quoteL true (x.toList.map (·.toNat))).map (·.toUInt8)).toArray t') s := by
  w_top off
  revert X
  k_fill
  intro X
  refine enter0 (binds := [(Str.ofString "bindata", .bytes x t)]) X T (by k_is) (by k_is) hroom rfl rfl ?_ (by decide) rfl rfl rfl
  intro h₁ F N
  repeat' (first | with_reducible (show wpAny _ _ (call (.builtin "re.Pattern.sub") _ _) _ _ _; first | (refine sub3 (pat3 (Frag.In.keeps ‹_› (Fr.keep ‹_›))) (by first | assumption | (show (List.toArray _).size ≤ _; simp only [List.size_toArray]; omega)) ?_; intro hZ tkZ tZ kZ; have FZ := Fr.keeps ‹_› kZ; have NZ := News.grown ‹_› kZ; clear kZ) | (refine sub1 (pat1 (Frag.In.keeps ‹_› (Fr.keep ‹_›))) (by first | assumption | (show (List.toArray _).size ≤ _; simp only [List.size_toArray]; omega)) ?_; intro hZ tkZ tZ kZ; have FZ := Fr.keeps ‹_› kZ; have NZ := News.grown ‹_› kZ; clear kZ) | (refine sub2 (pat2 (Frag.In.keeps ‹_› (Fr.keep ‹_›))) (by first | assumption | (show (List.toArray _).size ≤ _; simp only [List.size_toArray]; omega)) ?_; intro hZ tkZ tZ kZ; have FZ := Fr.keeps ‹_› kZ; have NZ := News.grown ‹_› kZ; clear kZ)) | with_reducible (refine meth_pat (pat2 (Frag.In.keeps ‹_› (Fr.keep ‹_›))) ?_) | with_reducible (refine meth_pat (pat1 (Frag.In.keeps ‹_› (Fr.keep ‹_›))) ?_) | with_reducible (refine meth_pat (pat3 (Frag.In.keeps ‹_› (Fr.keep ‹_›))) ?_) | walk1)
  rename Fr _ _ _ _ => F'
  exact ⟨_, _, _, rfl, rfl, F'.keep, _, rfl⟩
end
end Mine
end
end
-- part Gen3
section
open PySem PySem.W PySem.Calls PyProof.Rows
namespace Mine

/-- what a call gives back when it may make generators -/
noncomputable def RetG (s : Shared) (P : Value → Heap → Prop) (r : Result) (s' : Shared) : Prop :=
  ∃ v h' tk gs, r = .ok (.ret v) ∧ s' = { s with heap := h', toks := tk, gens := gs } ∧ (AllBare s.gens → AllBare gs) ∧ (∀ b o, s.heap.get? b = some o → h'.get? b = some o) ∧ P v h'

theorem use_retG {prog : Program} {w : World} {A : Around} {s : Shared} {f : Value} {args : List Value} {P : Value → Heap → Prop} {E : Value → Shared → Prop} {Q : Value → Shared → Prop} {h₀ : Heap} {L : Addr} {m : Str → Option Value} {news : List (Addr × Obj)}
    (F : Fr h₀ L s.heap m) (N : News h₀ L s.heap news) (hc : codeAny (model prog w) A (.call f ⟨args, []⟩) (RetG s P) s)
    (h : ∀ v h' tk gs, Fr h₀ L h' m → News h₀ L h' news → (AllBare s.gens → AllBare gs) → P v h' → Q v { s with heap := h', toks := tk, gens := gs }) : wpAny (model prog w) A (call f args) Q E s :=
  wpAny_call (codeAny_mono hc fun r s' ⟨v, h', tk, gs, e1, e2, b, k, p⟩ => by subst e1 e2; exact h v h' tk gs (Fr.keeps F k) (News.grown N k) b p)

noncomputable def hiOf (B : Nat) (h : Heap) : List (Addr × Obj) := (List.range h.objs.size).filterMap fun b => if B ≤ b then (h.get? b).map fun o => (b, o) else none
theorem mem_hi {B : Nat} {h : Heap} {p : Addr × Obj} : p ∈ hiOf B h ↔ B ≤ p.1 ∧ h.get? p.1 = some p.2 := by
  unfold hiOf
  rw [List.mem_filterMap]
  constructor
  · rintro ⟨b, hb, e⟩
    split at e
    · obtain ⟨o, ho, rfl⟩ := Option.map_eq_some_iff.mp e
      exact ⟨‹_›, ho⟩
    · cases e
  · rintro ⟨h1, h2⟩
    exact ⟨p.1, List.mem_range.mpr (Heap.lt_size h2), by rw [if_pos h1, h2]; rfl⟩
theorem hi_news {h₀ h : Heap} {L B : Nat} (hL : L < B) (hB : h₀.objs.size ≤ B) : News h₀ L h (hiOf B h) := fun p hp => by
  obtain ⟨h1, h2⟩ := mem_hi.mp hp
  refine ⟨h2, fun e => by rw [e] at h1; exact absurd hL (Nat.not_lt.mpr h1), ?_⟩
  cases q : h₀.get? p.1 with
  | none => rfl
  | some o => exact absurd (Nat.lt_of_lt_of_le (Heap.lt_size q) hB) (Nat.not_lt.mpr h1)

section
variable {prog : Program} {w : World} {A : Around} {E : Value → Shared → Prop} {s s' : Shared}
theorem GenP.keep {h₀ : Heap} {B : Nat} {a : Addr} {g : Nat} {items : List (Nat × List Nat)} {j : Nat} (G : GenP prog w A h₀ B a g items j s) (k : ∀ b o, B ≤ b → s.heap.get? b = some o → s'.heap.get? b = some o) (hg : s'.gens = s.gens) :
    GenP prog w A h₀ B a g items j s' := by
  obtain ⟨h1, ⟨o, nm, qn, ho, r⟩, gs, h3, h4, h5⟩ := G
  exact ⟨h1, ⟨o, nm, qn, k a o h1 ho, r⟩, gs, by rw [hg]; exact h3, h4, fun s'' hhi hlo => h5 s'' (fun b o hb e => hhi b o hb (k b o hb e)) hlo⟩

theorem letOwned_gen {elts : List Expr} {x1} {pos : Pos} {I T : Addr} {g : Nat} {Q : Unit → Shared → Prop} (hit : s.heap.IsGen I g) (hQ : Q () s) :
    wpAny (model prog w) A (letOwnedTupleGo (.Tuple elts x1 pos) (.ref I) (.ref T)) Q E s := by
  obtain ⟨o, nm, qn, ho, hc, hd, _⟩ := hit
  unfold letOwnedTupleGo
  refine wpAny_bind (wpAny_load ho ?_)
  rw [hc, hd]
  show wpAny _ A (if (["enumerate", "zip", "dict_itemiterator", "dict_reverseitemiterator", "odict_iterator", "itertools.zip_longest", "itertools.pairwise"].contains "generator" && _) = true then _ else _) Q E s
  rw [show ["enumerate", "zip", "dict_itemiterator", "dict_reverseitemiterator", "odict_iterator", "itertools.zip_longest", "itertools.pairwise"].contains "generator" = false by decide]
  exact wpAny_pure hQ

noncomputable def AfterTurn (h₀ : Heap) (L : Addr) (B : Nat) (own : List (Addr × Obj)) (s₁ : Shared) (Jn : (Str → Option Value) → List (Addr × Obj) → Prop) (R : Result → Shared → Prop) (f : Flow) (s' : Shared) : Prop := match f with
  | .next | .cont => ∃ h' tk m₂ news₂, s' = { s₁ with heap := h', toks := tk } ∧ Fr h₀ L h' m₂ ∧ News h₀ L h' (news₂ ++ own) ∧ (∀ q ∈ news₂, q.1 < B) ∧ Jn m₂ news₂
  | .brk => False
  | .ret v => R (.ok (.ret v)) s'

end
section
namespace kforGen
noncomputable abbrev V := (Program) × (World) × (Around) × (Shared) × (Result → Shared → Prop) × (List Stmt) × (Str) × (Scope) × (Addr) × (Addr) × (Value) × (Pos) × (Pos) × (Pos) × (Nat) × (Heap) × (Nat) × (Addr) × (Nat) × (List (Nat × List Nat)) × (Str → Option Value) × (List (Addr × Obj)) × (Nat → (Str → Option Value) → List (Addr × Obj) → Prop)
noncomputable def P (v : V) : Prop :=
  (fun (prog : Program) (w : World) (A : Around) (s : Shared) (R : Result → Shared → Prop) (bd : List Stmt) (nm : Str) (sc : Scope) (L : Addr) (f : Addr) (cd : Value) (p1 : Pos) (p2 : Pos) (p3 : Pos) (k0 : Nat) (h₀ : Heap) (B : Nat) (a : Addr) (g : Nat) (items : List (Nat × List Nat)) (m : Str → Option Value) (news : List (Addr × Obj)) (J : Nat → (Str → Option Value) → List (Addr × Obj) → Prop) =>
  ∀ (hh : A.handled = none) (hl : h₀.NoLimit) (hroom : A.depth < recursionLimit) (hB : h₀.objs.size ≤ B) (hL : L < B) (hk : sc.kind = .function) (hpos : sc.names.lookup (Str.ofString "pos") = some .local) (hch : sc.names.lookup (Str.ofString "ch") = some .local) (G : GenP prog w A h₀ B a g items 0 s) (F : Fr h₀ L s.heap m) (N : News h₀ L s.heap news) (hnw : ∀ q ∈ news, q.1 < B) (h0 : J 0 m news) (step : ∀ i p m₁ news₁ s₁ own t t', (∃ h tk gs, s₁ = { s with heap := h, toks := tk, gens := gs } ∧ GensOk g s.gens gs) → items[i]? = some p → J i m₁ news₁ → (∀ q ∈ news₁, q.1 < B) → (∀ q ∈ own, B ≤ q.1) →
      Fr h₀ L s₁.heap (fun y => if y = Str.ofString "ch" then some (.str (mkS p.2) t') else if y = Str.ofString "pos" then some (.int (p.1 : Int) t) else m₁ y) → News h₀ L s₁.heap (news₁ ++ own) →
      wpAny (model prog w) A (execs bd (envOf nm sc L f cd)) (AfterTurn h₀ L B own s₁ (J (i + 1)) R) (fun _ _ => False) s₁) (hR : ∀ h tk gs m' news', GensOk g s.gens gs → Fr h₀ L h m' → News h₀ L h news' → (∀ q ∈ news', q.1 < B) → J items.length m' news' → R (.ok .next) { s with heap := h, toks := tk, gens := gs }), codeAny (model prog w) A (.forLoop (.Tuple [.Name (Str.ofString "pos") p1, .Name (Str.ofString "ch") p2] k0 p3) (.ref a) bd [] (envOf nm sc L f cd)) R s)
    v.1 v.2.1 v.2.2.1 v.2.2.2.1 v.2.2.2.2.1 v.2.2.2.2.2.1 v.2.2.2.2.2.2.1 v.2.2.2.2.2.2.2.1 v.2.2.2.2.2.2.2.2.1 v.2.2.2.2.2.2.2.2.2.1 v.2.2.2.2.2.2.2.2.2.2.1 v.2.2.2.2.2.2.2.2.2.2.2.1 v.2.2.2.2.2.2.2.2.2.2.2.2.1 v.2.2.2.2.2.2.2.2.2.2.2.2.2.1 v.2.2.2.2.2.2.2.2.2.2.2.2.2.2.1 v.2.2.2.2.2.2.2.2.2.2.2.2.2.2.2.1 v.2.2.2.2.2.2.2.2.2.2.2.2.2.2.2.2.1 v.2.2.2.2.2.2.2.2.2.2.2.2.2.2.2.2.2.1 v.2.2.2.2.2.2.2.2.2.2.2.2.2.2.2.2.2.2.1 v.2.2.2.2.2.2.2.2.2.2.2.2.2.2.2.2.2.2.2.1 v.2.2.2.2.2.2.2.2.2.2.2.2.2.2.2.2.2.2.2.2.1 v.2.2.2.2.2.2.2.2.2.2.2.2.2.2.2.2.2.2.2.2.2.1 v.2.2.2.2.2.2.2.2.2.2.2.2.2.2.2.2.2.2.2.2.2.2
@[irreducible] noncomputable def v0 : V := @Classical.epsilon V ⟨(PySem.Challenge.rw_rs0108_01.row.prog, aW, callerA, {}, fun _ _ => True, [], ⟨#[]⟩, default, 0, 0, .none, default, default, default, 0, {}, 0, 0, 0, [], fun _ => none, [], fun _ _ _ => True)⟩ fun v => ¬ P v
noncomputable def prog : Program := v0.1
noncomputable def w : World := v0.2.1
noncomputable def A : Around := v0.2.2.1
noncomputable def s : Shared := v0.2.2.2.1
noncomputable def R : Result → Shared → Prop := v0.2.2.2.2.1
noncomputable def bd : List Stmt := v0.2.2.2.2.2.1
noncomputable def nm : Str := v0.2.2.2.2.2.2.1
noncomputable def sc : Scope := v0.2.2.2.2.2.2.2.1
noncomputable def L : Addr := v0.2.2.2.2.2.2.2.2.1
noncomputable def f : Addr := v0.2.2.2.2.2.2.2.2.2.1
noncomputable def cd : Value := v0.2.2.2.2.2.2.2.2.2.2.1
noncomputable def p1 : Pos := v0.2.2.2.2.2.2.2.2.2.2.2.1
noncomputable def p2 : Pos := v0.2.2.2.2.2.2.2.2.2.2.2.2.1
noncomputable def p3 : Pos := v0.2.2.2.2.2.2.2.2.2.2.2.2.2.1
noncomputable def k0 : Nat := v0.2.2.2.2.2.2.2.2.2.2.2.2.2.2.1
noncomputable def h₀ : Heap := v0.2.2.2.2.2.2.2.2.2.2.2.2.2.2.2.1
noncomputable def B : Nat := v0.2.2.2.2.2.2.2.2.2.2.2.2.2.2.2.2.1
noncomputable def a : Addr := v0.2.2.2.2.2.2.2.2.2.2.2.2.2.2.2.2.2.1
noncomputable def g : Nat := v0.2.2.2.2.2.2.2.2.2.2.2.2.2.2.2.2.2.2.1
noncomputable def items : List (Nat × List Nat) := v0.2.2.2.2.2.2.2.2.2.2.2.2.2.2.2.2.2.2.2.1
noncomputable def m : Str → Option Value := v0.2.2.2.2.2.2.2.2.2.2.2.2.2.2.2.2.2.2.2.2.1
noncomputable def news : List (Addr × Obj) := v0.2.2.2.2.2.2.2.2.2.2.2.2.2.2.2.2.2.2.2.2.2.1
noncomputable def J : Nat → (Str → Option Value) → List (Addr × Obj) → Prop := v0.2.2.2.2.2.2.2.2.2.2.2.2.2.2.2.2.2.2.2.2.2.2
theorem main (hh : A.handled = none) (hl : h₀.NoLimit) (hroom : A.depth < recursionLimit) (hB : h₀.objs.size ≤ B) (hL : L < B) (hk : sc.kind = .function) (hpos : sc.names.lookup (Str.ofString "pos") = some .local) (hch : sc.names.lookup (Str.ofString "ch") = some .local) (G : GenP prog w A h₀ B a g items 0 s) (F : Fr h₀ L s.heap m) (N : News h₀ L s.heap news) (hnw : ∀ q ∈ news, q.1 < B) (h0 : J 0 m news) (step : ∀ i p m₁ news₁ s₁ own t t', (∃ h tk gs, s₁ = { s with heap := h, toks := tk, gens := gs } ∧ GensOk g s.gens gs) → items[i]? = some p → J i m₁ news₁ → (∀ q ∈ news₁, q.1 < B) → (∀ q ∈ own, B ≤ q.1) →
      Fr h₀ L s₁.heap (fun y => if y = Str.ofString "ch" then some (.str (mkS p.2) t') else if y = Str.ofString "pos" then some (.int (p.1 : Int) t) else m₁ y) → News h₀ L s₁.heap (news₁ ++ own) →
      wpAny (model prog w) A (execs bd (envOf nm sc L f cd)) (AfterTurn h₀ L B own s₁ (J (i + 1)) R) (fun _ _ => False) s₁) (hR : ∀ h tk gs m' news', GensOk g s.gens gs → Fr h₀ L h m' → News h₀ L h news' → (∀ q ∈ news', q.1 < B) → J items.length m' news' → R (.ok .next) { s with heap := h, toks := tk, gens := gs }) :
    codeAny (model prog w) A (.forLoop (.Tuple [.Name (Str.ofString "pos") p1, .Name (Str.ofString "ch") p2] k0 p3) (.ref a) bd [] (envOf nm sc L f cd)) R s := by
  refine codeAny_forLoop_any (fun n s' => ∃ i h tk gs m₁ news₁, n = items.length + 1 - i ∧ i ≤ items.length ∧ s' = { s with heap := h, toks := tk, gens := gs } ∧ GensOk g s.gens gs ∧ GenP prog w A h₀ B a g items i s' ∧ Fr h₀ L h m₁ ∧ News h₀ L h news₁ ∧ (∀ q ∈ news₁, q.1 < B) ∧ J i m₁ news₁)
    ?_ (items.length + 1) ⟨0, s.heap, s.toks, s.gens, m, news, rfl, Nat.zero_le _, rfl, .inl rfl, G, F, N, hnw, h0⟩
  rintro n s' ⟨i, h, tk, gs, m₁, news₁, rfl, hi, rfl, hgs, G', F', N', hnw', hJ⟩
  have keepB : ∀ h' : Heap, (∀ b o, b < B → h.get? b = some o → h'.get? b = some o) → Fr h₀ L h' m₁ ∧ News h₀ L h' news₁ := fun h' k =>
    ⟨⟨F'.ns.at' fun o e => k _ o hL e, fun b o e => k b o (Nat.lt_of_lt_of_le (Heap.lt_size e) hB) (F'.keep b o e), F'.above⟩, fun p hp => ⟨k _ _ (hnw' p hp) (N' p hp).1, (N' p hp).2⟩⟩
  by_cases hlt : i < items.length
  · obtain ⟨p, hp⟩ : ∃ p, items[i]? = some p := ⟨_, List.getElem?_eq_getElem hlt⟩
    refine genP_item hh (hl.keeps F'.keep) hroom G' F'.keep hp fun v h' tk' gs' hv hvB k hgs' G₂ => ?_
    obtain ⟨T, t, t', rfl, hT⟩ := hv
    obtain ⟨F₂, N₂⟩ := keepB h' k
    refine letOwned_gen G₂.2.1 ?_
    refine wpAny_assign_Tuple hh hT rfl rfl fun h₃ hx₃ => ?_
    have k₃ : ∀ b o, h'.get? b = some o → h₃.get? b = some o := fun b o e => hx₃ b o (Nat.ne_of_lt (Heap.lt_size e)) e
    have F₃ := Fr.keeps F₂ k₃
    have N₃ := News.grown N₂ k₃
    have H₃ : News h₀ L h₃ (news₁ ++ hiOf B h₃) := fun q hq => (List.mem_append.mp hq).elim (N₃ q) (hi_news hL hB q)
    refine wpAny_bind (wpAny_holding (wpAny_assign_Name (stN F₃ H₃ (fun h₄ F₄ N₄ => ?_) hk hpos)))
    refine wpAny_bind (wpAny_holding (wpAny_assign_Name (stN F₄ N₄ (fun h₅ F₅ N₅ => wpAny_pure ?_) hk hch)))
    refine wpAny_mono (step i p m₁ news₁ _ (hiOf B h₃) t t' ⟨_, _, _, rfl, hgs.trans hgs'⟩ hp hJ hnw' (fun q hq => (mem_hi.mp hq).1) F₅ N₅) (fun fl s₆ h₆ => ?_) fun _ _ x => x.elim
    have again : ∀ {s₆ : Shared}, (∃ h' tk m₂ news₂, s₆ = { s with heap := h', toks := tk, gens := gs' } ∧ Fr h₀ L h' m₂ ∧ News h₀ L h' (news₂ ++ hiOf B h₃) ∧ (∀ q ∈ news₂, q.1 < B) ∧ J (i + 1) m₂ news₂) → 
        ∃ n', n' < items.length + 1 - i ∧ ∃ i' h tk gs m₁ news₁, n' = items.length + 1 - i' ∧ i' ≤ items.length ∧ s₆ = { s with heap := h, toks := tk, gens := gs } ∧ GensOk g s.gens gs ∧ GenP prog w A h₀ B a g items i' s₆ ∧ Fr h₀ L h m₁ ∧ News h₀ L h news₁ ∧ (∀ q ∈ news₁, q.1 < B) ∧ J i' m₁ news₁ := by
      rintro s₆ ⟨h₆, tk₆, m₂, news₂, rfl, F₆, N₆, hn₆, hJ₆⟩
      refine ⟨items.length + 1 - (i + 1), by lia, i + 1, h₆, tk₆, gs', m₂, news₂, rfl, hlt, rfl, hgs.trans hgs', G₂.keep (fun b o hb e => ?_) rfl, F₆, fun q hq => N₆ q (List.mem_append_left _ hq), hn₆, hJ₆⟩
      exact (N₆ (b, o) (List.mem_append_right _ (mem_hi.mpr ⟨hb, k₃ b o e⟩))).1
    cases fl with
    | next => exact again h₆
    | cont => exact again h₆
    | brk => exact h₆.elim
    | ret v => exact h₆
  · have hi' : i = items.length := by lia
    subst hi'
    refine genP_end hB hh (hl.keeps F'.keep) hroom G' F'.keep fun h' tk' gs' k hgs' => ?_
    obtain ⟨F₂, N₂⟩ := keepB h' k
    exact wpAny_execs_nil (hR h' tk' gs' m₁ news₁ (hgs.trans hgs') F₂ N₂ hnw' hJ)
theorem all (v : V) : P v := byEps (v0 := v0) (by unfold v0; rfl) main v
end kforGen
theorem forGen {prog : Program} {w : World} {A : Around} {s : Shared} {R : Result → Shared → Prop} {bd : List Stmt} {nm : Str} {sc : Scope} {L f : Addr} {cd : Value} {p1 p2 p3 : Pos} {k0 : Nat} {h₀ : Heap} {B : Nat} {a : Addr} {g : Nat} {items : List (Nat × List Nat)} {m : Str → Option Value} {news : List (Addr × Obj)} (hh : A.handled = none) (hl : h₀.NoLimit) (hroom : A.depth < recursionLimit) (hB : h₀.objs.size ≤ B) (hL : L < B) (hk : sc.kind = .function) (hpos : sc.names.lookup (Str.ofString "pos") = some .local) (hch : sc.names.lookup (Str.ofString "ch") = some .local) (G : GenP prog w A h₀ B a g items 0 s) (F : Fr h₀ L s.heap m) (N : News h₀ L s.heap news) (hnw : ∀ q ∈ news, q.1 < B) (J : Nat → (Str → Option Value) → List (Addr × Obj) → Prop) (h0 : J 0 m news) (step : ∀ i p m₁ news₁ s₁ own t t', (∃ h tk gs, s₁ = { s with heap := h, toks := tk, gens := gs } ∧ GensOk g s.gens gs) → items[i]? = some p → J i m₁ news₁ → (∀ q ∈ news₁, q.1 < B) → (∀ q ∈ own, B ≤ q.1) →
      Fr h₀ L s₁.heap (fun y => if y = Str.ofString "ch" then some (.str (mkS p.2) t') else if y = Str.ofString "pos" then some (.int (p.1 : Int) t) else m₁ y) → News h₀ L s₁.heap (news₁ ++ own) →
      wpAny (model prog w) A (execs bd (envOf nm sc L f cd)) (AfterTurn h₀ L B own s₁ (J (i + 1)) R) (fun _ _ => False) s₁) (hR : ∀ h tk gs m' news', GensOk g s.gens gs → Fr h₀ L h m' → News h₀ L h news' → (∀ q ∈ news', q.1 < B) → J items.length m' news' → R (.ok .next) { s with heap := h, toks := tk, gens := gs }) :
    codeAny (model prog w) A (.forLoop (.Tuple [.Name (Str.ofString "pos") p1, .Name (Str.ofString "ch") p2] k0 p3) (.ref a) bd [] (envOf nm sc L f cd)) R s := kforGen.all (prog, w, A, s, R, bd, nm, sc, L, f, cd, p1, p2, p3, k0, h₀, B, a, g, items, m, news, J) hh hl hroom hB hL hk hpos hch G F N hnw h0 step hR
end
end Mine
end
-- part Cut
section
open PySem PySem.W PySem.Calls PyProof.Rows
namespace Mine
inductive Stop (p : Prop) : Prop where | mk : p → Stop p

theorem execs_append (env : Env) (l2 : List Stmt) : ∀ l1, execs (l1 ++ l2) env = (execs l1 env).bind (fun f => match f with | .next => execs l2 env | f => Sem.pure f)
  | [] => rfl
  | st :: r => by
    show (exec st env).bind _ = ((exec st env).bind _).bind _
    rw [Sem.bind_assoc]
    congr 1
    funext f
    cases f with
    | next => exact execs_append env l2 r
    | _ => rfl

theorem wp_cut {M : Model} {A : Around} {E : Value → Shared → Prop} {Q : Flow → Shared → Prop} {env : Env} {s : Shared} (n : Nat) (l : List Stmt) (h : wpAny M A (execs (l.take n) env) (fun fl s' => match fl with | .next => Stop (wpAny M A (execs (l.drop n) env) Q E s') | f => Q f s') E s) : wpAny M A (execs l env) Q E s := by
  rw [← List.take_append_drop n l, execs_append]
  refine wpAny_bind (wpAny_mono h (fun f s' hf => ?_) fun _ _ x => x)
  cases f with
  | next => obtain ⟨h⟩ := hf; exact h
  | _ => exact wpAny_pure hf
/-- the same, with a word for the state in between, so that the ways meet -/
theorem wp_cutJ {M : Model} {A : Around} {E : Value → Shared → Prop} {Q : Flow → Shared → Prop} {env : Env} {s : Shared} (n : Nat) (l : List Stmt) (J : Shared → Prop)
    (h : wpAny M A (execs (l.take n) env) (fun fl s' => match fl with | .next => J s' | f => Q f s') E s) (k : ∀ s', J s' → wpAny M A (execs (l.drop n) env) Q E s') : wpAny M A (execs l env) Q E s :=
  wp_cut n l (wpAny_mono h (fun f s' hf => by
    cases f with
    | next => exact ⟨k s' hf⟩
    | _ => exact hf) fun _ _ x => x)
end Mine
end
-- part BitR
section
open PySem PySem.W PySem.Calls PyProof.Rows
namespace Mine
noncomputable def PairR (q r : Int) (v : Value) (h : Heap) : Prop := ∃ D t1 t2, v = .ref D ∧ h.IsTuple D #[.int q t1, .int r t2]
noncomputable abbrev bitsN (a : Nat) : Nat := Builtin.Int.intBits (a : Int)
theorem bitsN_le {a m : Nat} : bitsN a ≤ m ↔ a < 2 ^ m := by
  have := intBits_le_iff (x := (a : Int)) (m := m)
  simpa using this
theorem fdivN (a k : Nat) : ((a : Int)).fdiv (2 ^ k) = ((a / 2 ^ k : Nat) : Int) := by
  rw [Int.fdiv_eq_ediv_of_nonneg _ (Int.le_of_lt (kbt_pos k)), ← kbt_cast, Int.natCast_ediv]
theorem andN_mask (a k : Nat) : Builtin.bitAnd (a : Int) ((2 ^ k - 1 : Nat) : Int) = ((a % 2 ^ k : Nat) : Int) := by
  have hp := Nat.two_pow_pos k
  have e : ((2 ^ k - 1 : Nat) : Int) = 2 ^ k - 1 := by rw [← kbt_cast]; omega
  rw [e, kbt_mask, ← kbt_cast, Int.natCast_emod]
theorem and_pp (x y : Nat) : Builtin.bitAnd (x : Int) (y : Int) = ((x &&& y : Nat) : Int) := by
  rw [bitAnd_pp (by omega) (by omega)]; rfl
theorem and_low {r a n : Nat} (h : a < 2 ^ n) : (r * 2 ^ n) &&& a = 0 := by
  apply Nat.eq_of_testBit_eq
  intro i
  rw [Nat.testBit_and, Nat.zero_testBit]
  by_cases hi : i < n
  · rw [Nat.mul_comm, Nat.testBit_two_pow_mul]
    simp; omega
  · rw [Nat.testBit_lt_two_pow (Nat.lt_of_lt_of_le h (Nat.pow_le_pow_right (by decide) (by omega)))]; simp
theorem orN_low {r a n : Nat} (h : a < 2 ^ n) : Builtin.bitOr ((r * 2 ^ n : Nat) : Int) (a : Int) = ((r * 2 ^ n + a : Nat) : Int) := by
  rw [bitOr_and, and_pp, and_low h]; push_cast; omega
theorem and_high (x n : Nat) : x &&& (x / 2 ^ n * 2 ^ n) = x / 2 ^ n * 2 ^ n := by
  apply Nat.eq_of_testBit_eq
  intro i
  rw [Nat.testBit_and, Nat.mul_comm, Nat.testBit_two_pow_mul, Nat.testBit_div_two_pow]
  by_cases hi : n ≤ i
  · simp [hi, Nat.sub_add_cancel hi]
  · simp [hi]
theorem xorN_high (x n : Nat) : Builtin.bitXor (x : Int) ((x / 2 ^ n * 2 ^ n : Nat) : Int) = ((x % 2 ^ n : Nat) : Int) := by
  rw [bitXor_and, and_pp, and_high]
  have := Nat.div_add_mod x (2 ^ n)
  have e : 2 ^ n * (x / 2 ^ n) = x / 2 ^ n * 2 ^ n := Nat.mul_comm _ _
  omega
section
variable {prog : Program} {w : World} {A : Around} {E : Value → Shared → Prop} {s : Shared} {Q : Value → Shared → Prop} {t u : Tok}
theorem rshN {a k : Nat} (h : Q (.int ((a / 2 ^ k : Nat) : Int) s.toks) { s with toks := s.toks + 1 }) : wpAny (model prog w) A (binaryOp .RShift (.int (a : Int) t) (.int (k : Int) u)) Q E s :=
  rshift_int (by omega) (by rw [Int.toNat_natCast, fdivN]; exact h)
theorem rshN1 {a : Nat} (h : Q (.int ((a / 2 : Nat) : Int) s.toks) { s with toks := s.toks + 1 }) : wpAny (model prog w) A (binaryOp .RShift (.int (a : Int) t) (.int 1 u)) Q E s :=
  rshift_int (by omega) (by rw [show Int.toNat 1 = 1 from rfl, fdivN]; exact h)
theorem irshN1 {a : Nat} (h : Q (.int ((a / 2 : Nat) : Int) s.toks) { s with toks := s.toks + 1 }) : wpAny (model prog w) A (inplaceOp .RShift (.int (a : Int) t) (.int 1 u)) Q E s :=
  irshift_int (by omega) (by rw [show Int.toNat 1 = 1 from rfl, fdivN]; exact h)
theorem shlN {a k : Nat} (hs : bitsN a + k ≤ 2 ^ 27) (h : Q (.int ((a * 2 ^ k : Nat) : Int) s.toks) { s with toks := s.toks + 1 }) : wpAny (model prog w) A (binaryOp .LShift (.int (a : Int) t) (.int (k : Int) u)) Q E s :=
  lshift_int (by omega) (by have : (2 : Int) ^ 27 = ((2 ^ 27 : Nat) : Int) := by decide
                            have hs : Builtin.Int.intBits (a : Int) + k ≤ 2 ^ 27 := hs
                            omega) (by rw [Int.toNat_natCast, ← kbt_cast, ← Int.natCast_mul]; exact h)
theorem shl1N {k : Nat} (hs : k ≤ 2 ^ 26) (h : Q (.int ((2 ^ k : Nat) : Int) s.toks) { s with toks := s.toks + 1 }) : wpAny (model prog w) A (binaryOp .LShift (.int 1 t) (.int (k : Int) u)) Q E s :=
  lshift_int (by omega) (by have e : Builtin.Int.intBits 1 = 1 := by decide +kernel
                            rw [e]
                            have : (2 : Int) ^ 27 = ((2 ^ 27 : Nat) : Int) := by decide
                            omega) (by rw [Int.toNat_natCast, ← kbt_cast, Int.one_mul]; exact h)
theorem ishlN1 {a : Nat} (hs : bitsN a + 1 ≤ 2 ^ 27) (h : Q (.int ((a * 2 : Nat) : Int) s.toks) { s with toks := s.toks + 1 }) : wpAny (model prog w) A (inplaceOp .LShift (.int (a : Int) t) (.int 1 u)) Q E s :=
  ilshift_int (by omega) (by have : (2 : Int) ^ 27 = ((2 ^ 27 : Nat) : Int) := by decide
                             have hs : Builtin.Int.intBits (a : Int) + 1 ≤ 2 ^ 27 := hs
                             omega) (by have e : ((a * 2 : Nat) : Int) = (a : Int) * 2 ^ Int.toNat 1 := by rw [Int.natCast_mul]; rfl
                                        rw [← e]; exact h)
theorem andN1 {a : Nat} (h : Q (.int ((a % 2 : Nat) : Int) s.toks) { s with toks := s.toks + 1 }) : wpAny (model prog w) A (binaryOp .BitAnd (.int (a : Int) t) (.int 1 u)) Q E s :=
  and_int (by have := andN_mask a 1; rw [show ((2 ^ 1 - 1 : Nat) : Int) = 1 from rfl, show (2 : Nat) ^ 1 = 2 from rfl] at this; rw [this]; exact h)
theorem andN {a k : Nat} (h : Q (.int ((a % 2 ^ k : Nat) : Int) s.toks) { s with toks := s.toks + 1 }) : wpAny (model prog w) A (binaryOp .BitAnd (.int (a : Int) t) (.int ((2 ^ k - 1 : Nat) : Int) u)) Q E s :=
  and_int (by rw [andN_mask]; exact h)
theorem orN {r a n : Nat} (ha : a < 2 ^ n) (h : Q (.int ((r * 2 ^ n + a : Nat) : Int) s.toks) { s with toks := s.toks + 1 }) : wpAny (model prog w) A (binaryOp .BitOr (.int ((r * 2 ^ n : Nat) : Int) t) (.int (a : Int) u)) Q E s :=
  or_int (by rw [orN_low ha]; exact h)
theorem addN {a b : Nat} (h : Q (.int ((a + b : Nat) : Int) s.toks) { s with toks := s.toks + 1 }) : wpAny (model prog w) A (binaryOp .Add (.int (a : Int) t) (.int (b : Int) u)) Q E s := by
  refine add_int ?_
  rw [← Int.natCast_add]; exact h
theorem add1N {a : Nat} (h : Q (.int ((a + 1 : Nat) : Int) s.toks) { s with toks := s.toks + 1 }) : wpAny (model prog w) A (binaryOp .Add (.int (a : Int) t) (.int 1 u)) Q E s := add_int h
theorem xorN {x k : Nat} (h : Q (.int ((x % 2 ^ k : Nat) : Int) s.toks) { s with toks := s.toks + 1 }) : wpAny (model prog w) A (binaryOp .BitXor (.int (x : Int) t) (.int ((x / 2 ^ k * 2 ^ k : Nat) : Int) u)) Q E s :=
  xor_int (by rw [xorN_high]; exact h)
theorem subN {a b : Nat} (hab : b ≤ a) (h : Q (.int ((a - b : Nat) : Int) s.toks) { s with toks := s.toks + 1 }) : wpAny (model prog w) A (binaryOp .Sub (.int (a : Int) t) (.int (b : Int) u)) Q E s := by
  refine sub_int ?_
  rw [← Int.natCast_sub hab]; exact h
theorem sub1N {k : Nat} (h : Q (.int ((2 ^ k - 1 : Nat) : Int) s.toks) { s with toks := s.toks + 1 }) : wpAny (model prog w) A (binaryOp .Sub (.int ((2 ^ k : Nat) : Int) t) (.int 1 u)) Q E s := by
  refine sub_int ?_
  have := Nat.two_pow_pos k
  rw [show (((2 ^ k : Nat) : Int) - 1) = ((2 ^ k - 1 : Nat) : Int) by omega]; exact h
theorem iadd1N {a : Nat} (h : Q (.int ((a + 1 : Nat) : Int) s.toks) { s with toks := s.toks + 1 }) : wpAny (model prog w) A (inplaceOp .Add (.int (a : Int) t) (.int 1 u)) Q E s :=
  iadd_int h
theorem mulN {a b : Nat} (h : Q (.int ((a * b : Nat) : Int) s.toks) { s with toks := s.toks + 1 }) (ha : bitsN a ≤ 2 ^ 20) (hb : bitsN b ≤ 2 ^ 20) : wpAny (model prog w) A (binaryOp .Mult (.int (a : Int) t) (.int (b : Int) u)) Q E s := by
  exact mul_int (by rw [← Int.natCast_mul]; exact h) (IntMulOk.of_bits ha hb)
end
end Mine
end
section
local macro_rules | `(tactic| omega) => `(tactic| lia)
-- part Strip
section
open PySem PySem.W PySem.Calls PyProof.Rows
namespace Mine
section
variable {w : World} {A : Around} {s : Shared} {p : Program} {loose : List Str} {mean : ExcName → Option Value} {mg mb : Str → Option Value}

theorem use_gen {x : Str} {t : Tok} {h₀ : Heap} {L : Addr} {m : Str → Option Value} {news : List (Addr × Obj)} {E : Value → Shared → Prop} {Q : Value → Shared → Prop} (X : (hd.heap_39 w.params).In h₀) (T : Top p loose mean mg mb h₀) (F : Fr h₀ L s.heap m) (N : News h₀ L s.heap news) (hroom : A.depth < recursionLimit)
    (h : ∀ a h' tk gs, gs.bare = true → Fr h₀ L h' m → News h₀ L h' news → h₀.objs.size ≤ s.heap.objs.size → L < s.heap.objs.size → (∀ q ∈ news, q.1 < s.heap.objs.size) → s.gens.size < (s.gens.push gs).size →
      h'.IsGen a s.gens.size → (∀ A₂ : Around, A₂.handled = none → GenP PySem.Challenge.rw_rs0108_01.row.prog w A₂ h₀ s.heap.objs.size a s.gens.size (escL 0 false x.cps.toList) 0 { s with heap := h', toks := tk, gens := s.gens.push gs }) → Q (.ref a) { s with heap := h', toks := tk, gens := s.gens.push gs }) :
    wpAny (model PySem.Challenge.rw_rs0108_01.row.prog w) A (call (.ref 38) [.str x t]) Q E s := by
  have hLs : L < s.heap.objs.size := F.ns.lt
  have h0s : h₀.objs.size ≤ s.heap.objs.size := Nat.le_trans F.above (Nat.le_of_lt hLs)
  refine wpAny_call (codeAny_mono (gen_spec X T F.keep h0s hroom) ?_)
  rintro r s' ⟨a, h', tk, gs, rfl, rfl, hb, k, G⟩
  exact h a h' tk gs hb (Fr.keeps F k) (News.grown N k) h0s hLs (fun q hq => Heap.lt_size (N q hq).1) (by simp) (G { A with handled := none } rfl).2.1 G



structure SQ where
  st : Nat
  op : Option Nat
  res : List Str
noncomputable def sqStep (x : Str) (q : SQ) (p : Nat × List Nat) : SQ :=
  if p.2 = [34] then
    match q.op with
    | none => ⟨q.st, some p.1, q.res⟩
    | some o => ⟨p.1 + 1, none, if q.st ≠ o then q.res ++ [Txt.slice x (some (q.st : Int)) (some (o : Int))] else q.res⟩
  else q
noncomputable def sqAll (x : Str) (n : Nat) : SQ := ((escL 0 false x.cps.toList).take n).foldl (sqStep x) ⟨0, none, []⟩
noncomputable def sqEnd (x : Str) (q : SQ) : List Str := if q.st < x.length then q.res ++ [Txt.slice x (some (q.st : Int)) none] else q.res
noncomputable def stripQ (x : Str) : Str := if 34 ∈ x.cps.toList then Txt.join ⟨#[]⟩ (sqEnd x (sqAll x (escL 0 false x.cps.toList).length)) else x

theorem sqAll_succ {x : Str} {i : Nat} {p : Nat × List Nat} (h : (escL 0 false x.cps.toList)[i]? = some p) : sqAll x (i + 1) = sqStep x (sqAll x i) p := by
  unfold sqAll
  rw [List.take_add_one, h]
  simp [List.foldl_append]
theorem sqStep_len {x : Str} {q : SQ} {p : Nat × List Nat} (h2 : ∀ y ∈ q.res, y.length ≤ x.length) : (sqStep x q p).res.length ≤ q.res.length + 1 ∧ ∀ y ∈ (sqStep x q p).res, y.length ≤ x.length := by
  unfold sqStep
  split
  · split
    · exact ⟨by simp, h2⟩
    · split
      · refine ⟨by simp, fun y hy => ?_⟩
        rcases List.mem_append.mp hy with hy | hy
        · exact h2 y hy
        · rw [List.mem_singleton.mp hy]; exact Txt.slice_le ..
      · exact ⟨by simp, h2⟩
  · exact ⟨by simp, h2⟩
theorem escL_length : ∀ (i : Nat) (e : Bool) (l : List Nat), (escL i e l).length ≤ l.length + (if e then 1 else 0)
  | i, e, [] => by rw [escL]; split <;> simp
  | i, true, c :: r => by have := escL_length (i + 1) false r; rw [escL]; simp at this ⊢; omega
  | i, false, c :: r => by
    have h1 := escL_length (i + 1) false r
    have h2 := escL_length (i + 1) true r
    rw [escL]
    split
    · simp at h2 ⊢; omega
    · simp at h1 ⊢; omega
theorem sqAll_len {x : Str} : ∀ i, i ≤ (escL 0 false x.cps.toList).length → (sqAll x i).res.length ≤ i ∧ ∀ y ∈ (sqAll x i).res, y.length ≤ x.length
  | 0, _ => by simp [sqAll]
  | i + 1, hi => by
    have hlt : i < (escL 0 false x.cps.toList).length := hi
    obtain ⟨h1, h2⟩ := sqAll_len (x := x) i (by omega)
    rw [sqAll_succ (List.getElem?_eq_getElem hlt)]
    obtain ⟨h3, h4⟩ := sqStep_len (p := (escL 0 false x.cps.toList)[i]) h2
    exact ⟨by omega, h4⟩

/-- the loop's invariant -/
structure SInv (x : Str) (t : Tok) (D : Addr) (q : SQ) (l : List (Str × Tok)) (tl : Nat) (m : Str → Option Value) (news : List (Addr × Obj)) : Prop where
  addr : m (Str.ofString "addr") = some (.str x t)
  start : ∃ tt, m (Str.ofString "start") = some (.int (q.st : Int) tt)
  result : m (Str.ofString "result") = some (.ref D)
  op : match q.op with | none => m (Str.ofString "open_pos") = some .none | some o => ∃ to, m (Str.ofString "open_pos") = some (.int (o : Int) to)
  lst : l.map (·.1) = q.res
  news : news = [(D, { cls := .type "list", data := .seq (strValues l).toArray tl })]

theorem after_next {h₀ : Heap} {L : Addr} {B : Nat} {own : List (Addr × Obj)} {s₁ : Shared} {Jn : (Str → Option Value) → List (Addr × Obj) → Prop} {R : Result → Shared → Prop} {h' : Heap} {tk : Nat} {m₂ : Str → Option Value} {news₂ : List (Addr × Obj)}
    (F : Fr h₀ L h' m₂) (N : News h₀ L h' (news₂ ++ own)) (hn : ∀ q ∈ news₂, q.1 < B) (hJ : Jn m₂ news₂) : AfterTurn h₀ L B own s₁ Jn R .next { s₁ with heap := h', toks := tk } :=
  ⟨h', tk, m₂, news₂, rfl, F, N, hn, hJ⟩
theorem isq {l : List Nat} : (mkS l == Str.ofString "\"") = true ↔ l = [34] := by
  rw [show Str.ofString "\"" = mkS [34] by decide +kernel, beq_iff_eq]
  constructor
  · intro h; simpa [mkS] using h
  · intro h; rw [h]
theorem push_vals {l : List (Str × Tok)} {y : Str} {t : Tok} : (strValues l).toArray.push (.str y t) = (strValues (l ++ [(y, t)])).toArray := by simp [strValues]

end
section
namespace kstrip_spec
noncomputable abbrev V := (World) × (Around) × (Shared) × (Program) × (List Str) × (ExcName → Option Value) × (Str → Option Value) × (Str → Option Value) × (Str) × (Tok)
noncomputable def P (v : V) : Prop :=
  (fun (w : World) (A : Around) (s : Shared) (p : Program) (loose : List Str) (mean : ExcName → Option Value) (mg : Str → Option Value) (mb : Str → Option Value) (x : Str) (t : Tok) =>
  ∀ (hx : x.length ≤ 1000) (X : (hd.heap_39 w.params).In s.heap) (T : Top p loose mean mg mb s.heap) (hroom : A.depth + 5 < recursionLimit) (hh : A.handled = none), codeAny (model PySem.Challenge.rw_rs0108_01.row.prog w) A (.call (.ref 45) ⟨[.str x t], []⟩) (RetG s fun v _ => ∃ t', v = .str (stripQ x) t') s)
    v.1 v.2.1 v.2.2.1 v.2.2.2.1 v.2.2.2.2.1 v.2.2.2.2.2.1 v.2.2.2.2.2.2.1 v.2.2.2.2.2.2.2.1 v.2.2.2.2.2.2.2.2.1 v.2.2.2.2.2.2.2.2.2
@[irreducible] noncomputable def v0 : V := @Classical.epsilon V ⟨(aW, callerA, {}, PySem.Challenge.rw_rs0108_01.row.prog, [], fun _ => none, fun _ => none, fun _ => none, ⟨#[]⟩, 0)⟩ fun v => ¬ P v
noncomputable def w : World := v0.1
noncomputable def A : Around := v0.2.1
noncomputable def s : Shared := v0.2.2.1
noncomputable def p : Program := v0.2.2.2.1
noncomputable def loose : List Str := v0.2.2.2.2.1
noncomputable def mean : ExcName → Option Value := v0.2.2.2.2.2.1
noncomputable def mg : Str → Option Value := v0.2.2.2.2.2.2.1
noncomputable def mb : Str → Option Value := v0.2.2.2.2.2.2.2.1
noncomputable def x : Str := v0.2.2.2.2.2.2.2.2.1
noncomputable def t : Tok := v0.2.2.2.2.2.2.2.2.2
set_option maxHeartbeats 8000000 in
theorem main (hx : x.length ≤ 1000) (X : (hd.heap_39 w.params).In s.heap) (T : Top p loose mean mg mb s.heap) (hroom : A.depth + 5 < recursionLimit) (hh : A.handled = none) :
    codeAny (model PySem.Challenge.rw_rs0108_01.row.prog w) A (.call (.ref 45) ⟨[.str x t], []⟩) (RetG s fun v _ => ∃ t', v = .str (stripQ x) t') s := by
  w_top off
  revert X
  k_fill
  intro X
  refine enter0 (binds := [(Str.ofString "addr", .str x t)]) X T (by k_is) (by k_is) (by omega) rfl rfl ?_ (by decide) rfl rfl rfl
  intro h₁ F N
  have h34 := empty_one x 34
  rw [show (⟨#[34]⟩ : Str) = Str.ofString "\"" by decide +kernel] at h34
  have hlen : (escL 0 false x.cps.toList).length ≤ x.length := by have := escL_length 0 false x.cps.toList; simpa [Str.length] using this
  refine wp_cut 4 _ ?_
  dsimp only [List.take, List.drop]
  repeat' (first | ((with_reducible show wpAny _ _ (call (.builtin "list.append") _ _) _ _ _); refine append_head ‹_› ‹_› ‹_› ?_ ‹_›; intro _ _ _) | with_reducible (show wpAny _ _ (pyIter (.ref _)) _ _ _; refine wpAny_pyIter_gen ‹_› ?_) | ((with_reducible show wpAny _ _ (call (.ref _) _ _) _ _ _); refine use_gen ‹_› ‹_› ‹_› ‹_› (by first | assumption | (show _ + 1 < recursionLimit; omega)) ?_; intro _ _ _ _ _ _ _ _ _ _ _ _ _) | walk1)
  · rename ((Builtin.Str.occurrences _ _ _ _ _).isEmpty = _) => hem
    rw [h34] at hem
    exact ⟨_, _, _, _, rfl, rfl, id, F.keep, t, by unfold stripQ; rw [if_neg (by simpa using hem)]⟩
  rename ((Builtin.Str.occurrences _ _ _ _ _).isEmpty = _) => hem
  rw [h34] at hem
  have hst : stripQ x = Txt.join ⟨#[]⟩ (sqEnd x (sqAll x (escL 0 false x.cps.toList).length)) := by unfold stripQ; rw [if_pos (by simpa using hem)]
  clear hem h34
  refine .mk (wpAny_execs_cons (wpAny_For ?_ (fun _ => rfl)))
  repeat' (first | ((with_reducible show wpAny _ _ (call (.builtin "list.append") _ _) _ _ _); refine append_head ‹_› ‹_› ‹_› ?_ ‹_›; intro _ _ _) | with_reducible (show wpAny _ _ (pyIter (.ref _)) _ _ _; refine wpAny_pyIter_gen ‹_› ?_) | ((with_reducible show wpAny _ _ (call (.ref _) _ _) _ _ _); refine use_gen ‹_› ‹_› ‹_› ‹_› (by first | assumption | (show _ + 1 < recursionLimit; omega)) ?_; intro _ _ _ _ _ _ _ _ _ _ _ _ _) | walk1)
  rename_i ga gh gtk ggs gb gF gN g0 gL gn gsz gI gG
  refine forGen hh T.nolimit (by show A.depth + 1 < recursionLimit; omega) g0 gL rfl rfl rfl (gG _ hh) gF gN gn (fun i m news => ∃ l' l tl, SInv x t l' (sqAll x i) l tl m news) ?_ ?_ ?_
  · exact ⟨_, [], 0, rfl, ⟨_, rfl⟩, rfl, rfl, rfl, rfl⟩
  · rintro i pp m₁ news₁ s₁ own u u' ⟨h5, tk5, gs5, rfl, hgs5⟩ hpp ⟨l', l, tl, m1, ⟨tt, m2⟩, m3, m4, m5, rfl⟩ hn5 hown F5 N5
    have hsu := sqAll_succ hpp
    dsimp only [List.cons_append, List.nil_append] at F5 N5
    obtain ⟨hq1, hq2⟩ := sqAll_len (x := x) i (Nat.le_of_lt (List.getElem?_eq_some_iff.mp hpp).1)
    have hi : i < x.length := Nat.lt_of_lt_of_le (List.getElem?_eq_some_iff.mp hpp).1 hlen
    have hsz : (strValues l).toArray.size ≤ sizeLine := by
      have : l.length = (sqAll x i).res.length := by rw [← m5]; simp
      simp only [strValues, List.size_toArray, List.length_map]
      have : (1000 : Nat) ≤ sizeLine := by decide
      omega
    generalize sqAll x i = q at *
    clear hq1 hq2
    have F6 := fr_known (k := Str.ofString "result") (v := .ref l') (fr_known (k := Str.ofString "start") (v := .int (q.st : Int) tt) (fr_known (k := Str.ofString "addr") (v := .str x t) F5 m1) m2) m3
    clear F5 gF gN gG gI
    have hap : ∀ p ∈ own, p.1 ≠ l' := fun p hp e => by
      have h1 := hown p hp
      have h2 := hn5 _ (.head _)
      rw [e] at h1
      exact absurd h2 (Nat.not_lt.mpr h1)
    have hl6 := hn5 _ (.head _)
    have hn6 : ∀ o : Obj, ∀ q ∈ [(l', o)], q.1 < _ := fun o q hq => by rw [List.mem_singleton.mp hq]; exact hl6
    clear hown
    obtain ⟨st, op, res⟩ := q
    dsimp only at F6
    cases op with
    | none =>
      have F7 := fr_known (k := Str.ofString "open_pos") (v := .none) F6 m4
      clear F6
      repeat' (first | ((with_reducible show wpAny _ _ (call (.builtin "list.append") _ _) _ _ _); refine append_head ‹_› ‹_› ‹_› ?_ ‹_›; intro _ _ _) | with_reducible (show wpAny _ _ (pyIter (.ref _)) _ _ _; refine wpAny_pyIter_gen ‹_› ?_) | ((with_reducible show wpAny _ _ (call (.ref _) _ _) _ _ _); refine use_gen ‹_› ‹_› ‹_› ‹_› (by first | assumption | (show _ + 1 < recursionLimit; omega)) ?_; intro _ _ _ _ _ _ _ _ _ _ _ _ _) | walk1)
      · rename ((mkS _ == _) = _) => hc
        rename Fr _ _ _ _ => F'
        rename News _ _ _ _ => N'
        rw [sqStep, if_pos (isq.mp hc)] at hsu
        exact after_next F' N' (hn6 _) ⟨l', l, tl, hsu ▸ ⟨rfl, ⟨tt, rfl⟩, rfl, ⟨u, rfl⟩, m5, rfl⟩⟩
      · rename ((mkS _ == _) = _) => hc
        rw [sqStep, if_neg (fun e => by rw [isq.mpr e] at hc; cases hc)] at hsu
        exact after_next F7 N5 (hn6 _) ⟨l', l, tl, hsu ▸ ⟨rfl, ⟨tt, rfl⟩, rfl, rfl, m5, rfl⟩⟩
    | some o =>
      obtain ⟨to, m4⟩ := m4
      have F7 := fr_known (k := Str.ofString "open_pos") (v := .int (o : Int) to) F6 m4
      clear F6
      repeat' (first | ((with_reducible show wpAny _ _ (call (.builtin "list.append") _ _) _ _ _); refine append_head ‹_› ‹_› ‹_› ?_ ‹_›; intro _ _ _) | with_reducible (show wpAny _ _ (pyIter (.ref _)) _ _ _; refine wpAny_pyIter_gen ‹_› ?_) | ((with_reducible show wpAny _ _ (call (.ref _) _ _) _ _ _); refine use_gen ‹_› ‹_› ‹_› ‹_› (by first | assumption | (show _ + 1 < recursionLimit; omega)) ?_; intro _ _ _ _ _ _ _ _ _ _ _ _ _) | walk1)
      · rename ((mkS _ == _) = _) => hc
        rename Fr _ _ _ _ => F'
        rename News _ _ _ _ => N'
        rename ((_ : Int) ≠ _) => hne
        have hne : st ≠ o := fun e => hne (by show (st : Int) = o; rw [e])
        rw [sqStep, if_pos (isq.mp hc)] at hsu
        dsimp only at hsu
        rw [if_pos hne] at hsu
        rw [push_vals] at N'
        exact after_next F' N' (hn6 _) ⟨l', l ++ [(Txt.slice x (some (st : Int)) (some (o : Int)), _)], tl + 1, by rw [hsu]; exact ⟨rfl, ⟨_, rfl⟩, rfl, rfl, by simp [m5], rfl⟩⟩
      · rename ((mkS _ == _) = _) => hc
        rename Fr _ _ _ _ => F'
        rename News _ _ _ _ => N'
        rename ((_ : Int) = _) => hne
        have hne : st = o := Int.ofNat.inj hne
        rw [sqStep, if_pos (isq.mp hc)] at hsu
        dsimp only at hsu
        rw [if_neg (fun q => q hne)] at hsu
        exact after_next F' N' (hn6 _) ⟨l', l, tl, by rw [hsu]; exact ⟨rfl, ⟨_, rfl⟩, rfl, rfl, m5, rfl⟩⟩
      · rename ((mkS _ == _) = _) => hc
        rw [sqStep, if_neg (fun e => by rw [isq.mpr e] at hc; cases hc)] at hsu
        exact after_next F7 N5 (hn6 _) ⟨l', l, tl, hsu ▸ ⟨rfl, ⟨tt, rfl⟩, rfl, ⟨to, rfl⟩, m5, rfl⟩⟩
  · rintro h5 tk5 gs5 m₁ news₁ hgs5 F5 N5 hn5 ⟨l', l, tl, m1, ⟨tt, m2⟩, m3, m4, m5, rfl⟩
    obtain ⟨hq1, hq2⟩ := sqAll_len (x := x) _ (Nat.le_refl _)
    have hgs : AllBare s.gens → AllBare gs5 := fun hb => AllBare.moved (AllBare.push hb gb) hgs5
    have hll : l.length = (sqAll x (escL 0 false x.cps.toList).length).res.length := by rw [← m5]; simp
    have hsz : (strValues l).toArray.size ≤ sizeLine := by
      simp only [strValues, List.size_toArray, List.length_map]
      have : (1000 : Nat) ≤ sizeLine := by decide
      omega
    generalize sqAll x (escL 0 false x.cps.toList).length = q at *
    have F6 := fr_known (k := Str.ofString "result") (v := .ref l') (fr_known (k := Str.ofString "start") (v := .int (q.st : Int) tt) (fr_known (k := Str.ofString "addr") (v := .str x t) F5 m1) m2) m3
    clear F5 gF gN gG gI
    dsimp only
    have he0 : Str.length (Str.ofString "") = 0 := by decide +kernel
    repeat' (first | ((with_reducible show wpAny _ _ (call (.builtin "list.append") _ _) _ _ _); refine append_head ‹_› ‹_› ‹_› ?_ ‹_›; intro _ _ _) | with_reducible (show wpAny _ _ (pyIter (.ref _)) _ _ _; refine wpAny_pyIter_gen ‹_› ?_) | ((with_reducible show wpAny _ _ (call (.ref _) _ _) _ _ _); refine use_gen ‹_› ‹_› ‹_› ‹_› (by first | assumption | (show _ + 1 < recursionLimit; omega)) ?_; intro _ _ _ _ _ _ _ _ _ _ _ _ _) | walk1)
    · rename ((_ : Int) < _) => hlt
      rename Fr _ _ _ _ => F'
      rename News _ _ _ _ => N'
      have hlt : q.st < x.length := Int.ofNat_lt.mp hlt
      rw [push_vals] at N'
      refine SC.join (News.isList N' (.head _)) rfl (joinOk_of ?_) fun t' k' => ?_
      · rw [List.map_append, m5]
        have := StrLaws.sumLen_le (B := 1000) (q.res ++ [Txt.slice x (some (q.st : Int)) none]) (fun y hy => by
          rcases List.mem_append.mp hy with hy | hy
          · exact Nat.le_trans (hq2 y hy) hx
          · rw [List.mem_singleton.mp hy]; exact Nat.le_trans (Txt.slice_le ..) hx)
        rw [he0, Nat.mul_zero]
        simp only [List.length_append, List.length_singleton] at this
        exact Nat.le_trans this (by omega)
      · repeat' (first | ((with_reducible show wpAny _ _ (call (.builtin "list.append") _ _) _ _ _); refine append_head ‹_› ‹_› ‹_› ?_ ‹_›; intro _ _ _) | with_reducible (show wpAny _ _ (pyIter (.ref _)) _ _ _; refine wpAny_pyIter_gen ‹_› ?_) | ((with_reducible show wpAny _ _ (call (.ref _) _ _) _ _ _); refine use_gen ‹_› ‹_› ‹_› ‹_› (by first | assumption | (show _ + 1 < recursionLimit; omega)) ?_; intro _ _ _ _ _ _ _ _ _ _ _ _ _) | walk1)
        refine ⟨_, _, _, _, rfl, rfl, hgs, F'.keep, t', ?_⟩
        rw [hst, sqEnd, if_pos hlt, List.map_append, m5]
        rfl
    · rename (¬ (_ : Int) < _) => hlt
      have hlt : ¬ q.st < x.length := fun h => hlt (Int.ofNat_lt.mpr h)
      refine SC.join (News.isList N5 (.head _)) rfl (joinOk_of ?_) fun t' k' => ?_
      · rw [m5]
        have := StrLaws.sumLen_le (B := 1000) q.res (fun y hy => Nat.le_trans (hq2 y hy) hx)
        rw [he0, Nat.mul_zero]
        exact Nat.le_trans this (by omega)
      · repeat' (first | ((with_reducible show wpAny _ _ (call (.builtin "list.append") _ _) _ _ _); refine append_head ‹_› ‹_› ‹_› ?_ ‹_›; intro _ _ _) | with_reducible (show wpAny _ _ (pyIter (.ref _)) _ _ _; refine wpAny_pyIter_gen ‹_› ?_) | ((with_reducible show wpAny _ _ (call (.ref _) _ _) _ _ _); refine use_gen ‹_› ‹_› ‹_› ‹_› (by first | assumption | (show _ + 1 < recursionLimit; omega)) ?_; intro _ _ _ _ _ _ _ _ _ _ _ _ _) | walk1)
        refine ⟨_, _, _, _, rfl, rfl, hgs, F6.keep, t', ?_⟩
        rw [hst, sqEnd, if_neg hlt, m5]
        rfl
theorem all (v : V) : P v := byEps (v0 := v0) (by unfold v0; rfl) main v
end kstrip_spec
theorem strip_spec {w : World} {A : Around} {s : Shared} {p : Program} {loose : List Str} {mean : ExcName → Option Value} {mg : Str → Option Value} {mb : Str → Option Value} {x : Str} {t : Tok} (hx : x.length ≤ 1000) (X : (hd.heap_39 w.params).In s.heap) (T : Top p loose mean mg mb s.heap) (hroom : A.depth + 5 < recursionLimit) (hh : A.handled = none) :
    codeAny (model PySem.Challenge.rw_rs0108_01.row.prog w) A (.call (.ref 45) ⟨[.str x t], []⟩) (RetG s fun v _ => ∃ t', v = .str (stripQ x) t') s := kstrip_spec.all (w, A, s, p, loose, mean, mg, mb, x, t) hx X T hroom hh
end
end Mine
end
-- part Chk
section
open PySem PySem.W PySem.Calls PyProof.Rows
namespace Mine
section
variable {w : World} {A : Around} {s : Shared} {p : Program} {loose : List Str} {mean : ExcName → Option Value} {mg mb : Str → Option Value}

/-- the count of open brackets, or none when it fell below zero -/
noncomputable def ckStep (o : Option Nat) (p : Nat × List Nat) : Option Nat := match o with
  | none => none
  | some n => if p.2 = [40] then some (n + 1) else if p.2 = [41] then (match n with | 0 => none | k + 1 => some k) else some n
noncomputable def ckAll (x : Str) (n : Nat) : Option Nat := ((escL 0 false x.cps.toList).take n).foldl ckStep (some 0)
noncomputable def chk (x : Str) : Bool := ckAll (stripQ x) (escL 0 false (stripQ x).cps.toList).length == some 0

theorem ck40 {n : Nat} {p : Nat × List Nat} (h : p.2 = [40]) : ckStep (some n) p = some (n + 1) := by unfold ckStep; simp [h]
theorem ck41z {p : Nat × List Nat} (h : p.2 = [41]) : ckStep (some 0) p = none := by unfold ckStep; simp [h]
theorem ck41s {n : Nat} {p : Nat × List Nat} (h : p.2 = [41]) : ckStep (some (n + 1)) p = some n := by unfold ckStep; simp [h]
theorem ckOther {n : Nat} {p : Nat × List Nat} (h : p.2 ≠ [40]) (h' : p.2 ≠ [41]) : ckStep (some n) p = some n := by unfold ckStep; simp [h, h']
theorem ckAll_succ {x : Str} {i : Nat} {p : Nat × List Nat} (h : (escL 0 false x.cps.toList)[i]? = some p) : ckAll x (i + 1) = ckStep (ckAll x i) p := by
  unfold ckAll
  rw [List.take_add_one, h]
  simp [List.foldl_append]
theorem ck_none : ∀ l : List (Nat × List Nat), l.foldl ckStep none = none
  | [] => rfl
  | _ :: r => ck_none r
theorem ckAll_none {x : Str} {i : Nat} (h : ckAll x i = none) : ckAll x (escL 0 false x.cps.toList).length = none := by
  unfold ckAll at h ⊢
  rw [List.take_length]
  conv => lhs; rw [← List.take_append_drop i (escL 0 false x.cps.toList)]
  rw [List.foldl_append, h, ck_none]

theorem is40 {l : List Nat} : (mkS l == Str.ofString "(") = true ↔ l = [40] := by
  rw [show Str.ofString "(" = mkS [40] by decide +kernel, beq_iff_eq]
  constructor
  · intro h; simpa [mkS] using h
  · intro h; rw [h]
theorem is41 {l : List Nat} : (mkS l == Str.ofString ")") = true ↔ l = [41] := by
  rw [show Str.ofString ")" = mkS [41] by decide +kernel, beq_iff_eq]
  constructor
  · intro h; simpa [mkS] using h
  · intro h; rw [h]

structure CInv (n : Nat) (m : Str → Option Value) (news : List (Addr × Obj)) : Prop where
  opens : ∃ tt, m (Str.ofString "opens") = some (.int (n : Int) tt)
  news : news = []

theorem use_strip {x : Str} {t : Tok} {h₀ : Heap} {L : Addr} {m : Str → Option Value} {news : List (Addr × Obj)} {E : Value → Shared → Prop} {Q : Value → Shared → Prop} (X : (hd.heap_39 w.params).In h₀) (T : Top p loose mean mg mb h₀) (F : Fr h₀ L s.heap m) (N : News h₀ L s.heap news) (hx : x.length ≤ 1000) (hroom : A.depth + 5 < recursionLimit) (hh : A.handled = none)
    (h : ∀ h' tk gs t', Fr h₀ L h' m → News h₀ L h' news → (AllBare s.gens → AllBare gs) → Q (.str (stripQ x) t') { s with heap := h', toks := tk, gens := gs }) :
    wpAny (model PySem.Challenge.rw_rs0108_01.row.prog w) A (call (.ref 45) [.str x t]) Q E s := by
  refine use_retG F N (strip_spec hx (X.keeps F.keep) (T.keeps F.keep) hroom hh) ?_
  rintro v h' tk gs F' N' hb ⟨t', rfl⟩
  exact h h' tk gs t' F' N' hb
end
section
namespace kchk_spec
noncomputable abbrev V := (World) × (Around) × (Shared) × (Program) × (List Str) × (ExcName → Option Value) × (Str → Option Value) × (Str → Option Value) × (Str) × (Tok)
noncomputable def P (v : V) : Prop :=
  (fun (w : World) (A : Around) (s : Shared) (p : Program) (loose : List Str) (mean : ExcName → Option Value) (mg : Str → Option Value) (mb : Str → Option Value) (x : Str) (t : Tok) =>
  ∀ (hx : x.length ≤ 1000) (X : (hd.heap_39 w.params).In s.heap) (T : Top p loose mean mg mb s.heap) (hroom : A.depth + 10 < recursionLimit) (hh : A.handled = none), codeAny (model PySem.Challenge.rw_rs0108_01.row.prog w) A (.call (.ref 52) ⟨[.str x t], []⟩) (RetG s fun v _ => v = .bool (chk x)) s)
    v.1 v.2.1 v.2.2.1 v.2.2.2.1 v.2.2.2.2.1 v.2.2.2.2.2.1 v.2.2.2.2.2.2.1 v.2.2.2.2.2.2.2.1 v.2.2.2.2.2.2.2.2.1 v.2.2.2.2.2.2.2.2.2
@[irreducible] noncomputable def v0 : V := @Classical.epsilon V ⟨(aW, callerA, {}, PySem.Challenge.rw_rs0108_01.row.prog, [], fun _ => none, fun _ => none, fun _ => none, ⟨#[]⟩, 0)⟩ fun v => ¬ P v
noncomputable def w : World := v0.1
noncomputable def A : Around := v0.2.1
noncomputable def s : Shared := v0.2.2.1
noncomputable def p : Program := v0.2.2.2.1
noncomputable def loose : List Str := v0.2.2.2.2.1
noncomputable def mean : ExcName → Option Value := v0.2.2.2.2.2.1
noncomputable def mg : Str → Option Value := v0.2.2.2.2.2.2.1
noncomputable def mb : Str → Option Value := v0.2.2.2.2.2.2.2.1
noncomputable def x : Str := v0.2.2.2.2.2.2.2.2.1
noncomputable def t : Tok := v0.2.2.2.2.2.2.2.2.2
set_option maxHeartbeats 8000000 in
theorem main (hx : x.length ≤ 1000) (X : (hd.heap_39 w.params).In s.heap) (T : Top p loose mean mg mb s.heap) (hroom : A.depth + 10 < recursionLimit) (hh : A.handled = none) :
    codeAny (model PySem.Challenge.rw_rs0108_01.row.prog w) A (.call (.ref 52) ⟨[.str x t], []⟩) (RetG s fun v _ => v = .bool (chk x)) s := by
  w_top off
  revert X
  k_fill
  intro X
  refine enter0 (binds := [(Str.ofString "addr", .str x t)]) X T (by k_is) (by k_is) (by omega) rfl rfl ?_ (by decide) rfl rfl rfl
  intro h₁ F N
  refine wp_cut 2 _ ?_
  dsimp only [List.take, List.drop]
  repeat' (first | with_reducible (show wpAny _ _ (pyIter (.ref _)) _ _ _; refine wpAny_pyIter_gen ‹_› ?_) | ((with_reducible show wpAny _ _ (call (.ref _) _ _) _ _ _); refine use_strip ‹_› ‹_› ‹_› ‹_› ‹_› (by show _ + 1 + 5 < recursionLimit; omega) ‹_› ?_; intro _ _ _ _ _ _ _) | ((with_reducible show wpAny _ _ (call (.ref _) _ _) _ _ _); refine use_gen ‹_› ‹_› ‹_› ‹_› (by first | assumption | (show _ + 1 < recursionLimit; omega)) ?_; intro _ _ _ _ _ _ _ _ _ _ _ _ _) | walk1)
  rename (AllBare _ → AllBare _) => hbs
  refine .mk (wpAny_execs_cons (wpAny_For ?_ (fun _ => rfl)))
  repeat' (first | with_reducible (show wpAny _ _ (pyIter (.ref _)) _ _ _; refine wpAny_pyIter_gen ‹_› ?_) | ((with_reducible show wpAny _ _ (call (.ref _) _ _) _ _ _); refine use_strip ‹_› ‹_› ‹_› ‹_› ‹_› (by show _ + 1 + 5 < recursionLimit; omega) ‹_› ?_; intro _ _ _ _ _ _ _) | ((with_reducible show wpAny _ _ (call (.ref _) _ _) _ _ _); refine use_gen ‹_› ‹_› ‹_› ‹_› (by first | assumption | (show _ + 1 < recursionLimit; omega)) ?_; intro _ _ _ _ _ _ _ _ _ _ _ _ _) | walk1)
  rename_i ga gh gtk ggs gb gF gN g0 gL gn gsz gI gG
  refine forGen hh T.nolimit (by show A.depth + 1 < recursionLimit; omega) g0 gL rfl rfl rfl (gG _ hh) gF gN gn (fun i m news => ∃ n, ckAll (stripQ x) i = some n ∧ CInv n m news) ?_ ?_ ?_
  · exact ⟨0, rfl, ⟨_, rfl⟩, rfl⟩
  · rintro i pp m₁ news₁ s₁ own u u' ⟨h5, tk5, gs5, rfl, hgs5⟩ hpp ⟨n, hn, ⟨tt, m1⟩, rfl⟩ hn5 hown F5 N5
    have hsu := ckAll_succ hpp
    rw [hn] at hsu
    have hgs : AllBare s.gens → AllBare gs5 := fun hb => AllBare.moved (AllBare.push (hbs hb) gb) hgs5
    have hi := Nat.le_of_lt (List.getElem?_eq_some_iff.mp hpp).1
    dsimp only [List.cons_append, List.nil_append] at F5 N5
    have F6 := fr_known (k := Str.ofString "opens") (v := .int (n : Int) tt) F5 m1
    clear F5 gF gN gG gI
    repeat' (first | with_reducible (show wpAny _ _ (pyIter (.ref _)) _ _ _; refine wpAny_pyIter_gen ‹_› ?_) | ((with_reducible show wpAny _ _ (call (.ref _) _ _) _ _ _); refine use_strip ‹_› ‹_› ‹_› ‹_› ‹_› (by show _ + 1 + 5 < recursionLimit; omega) ‹_› ?_; intro _ _ _ _ _ _ _) | ((with_reducible show wpAny _ _ (call (.ref _) _ _) _ _ _); refine use_gen ‹_› ‹_› ‹_› ‹_› (by first | assumption | (show _ + 1 < recursionLimit; omega)) ?_; intro _ _ _ _ _ _ _ _ _ _ _ _ _) | walk1)
    · rename ((mkS _ == _) = _) => hc
      rename Fr _ _ _ _ => F'
      rename News _ _ _ _ => N'
      rw [ck40 (is40.mp hc)] at hsu
      exact after_next (news₂ := []) F' N' (by simp) ⟨n + 1, hsu, ⟨_, rfl⟩, rfl⟩
    · rename ((mkS _ == Str.ofString "(") = _) => hc
      rename ((mkS _ == Str.ofString ")") = _) => hd
      rename ((n : Int) - 1 < 0) => hlt
      rename Fr _ _ _ _ => F'
      have hn0 : n = 0 := by omega
      subst hn0
      rw [ck41z (is41.mp hd)] at hsu
      refine ⟨_, _, _, _, rfl, rfl, hgs, F'.keep, ?_⟩
      unfold chk
      rw [ckAll_none hsu]
      rfl
    · rename ((mkS _ == Str.ofString "(") = _) => hc
      rename ((mkS _ == Str.ofString ")") = _) => hd
      rename (¬ (n : Int) - 1 < 0) => hlt
      rename Fr _ _ _ _ => F'
      rename News _ _ _ _ => N'
      obtain ⟨k, rfl⟩ : ∃ k, n = k + 1 := ⟨n - 1, by omega⟩
      rw [ck41s (is41.mp hd)] at hsu
      exact after_next (news₂ := []) F' N' (by simp) ⟨k, hsu, ⟨_, by simp; rfl⟩, rfl⟩
    · rename ((mkS _ == Str.ofString "(") = _) => hc
      rename ((mkS _ == Str.ofString ")") = _) => hd
      rw [ckOther (fun e => by rw [is40.mpr e] at hc; cases hc) (fun e => by rw [is41.mpr e] at hd; cases hd)] at hsu
      exact after_next (news₂ := []) F6 N5 (by simp) ⟨n, hsu, ⟨_, rfl⟩, rfl⟩
  · rintro h5 tk5 gs5 m₁ news₁ hgs5 F5 N5 hn5 ⟨n, hn, ⟨tt, m1⟩, rfl⟩
    have hgs : AllBare s.gens → AllBare gs5 := fun hb => AllBare.moved (AllBare.push (hbs hb) gb) hgs5
    have F6 := fr_known (k := Str.ofString "opens") (v := .int (n : Int) tt) F5 m1
    clear F5 gF gN gG gI
    dsimp only
    repeat' (first | with_reducible (show wpAny _ _ (pyIter (.ref _)) _ _ _; refine wpAny_pyIter_gen ‹_› ?_) | ((with_reducible show wpAny _ _ (call (.ref _) _ _) _ _ _); refine use_strip ‹_› ‹_› ‹_› ‹_› ‹_› (by show _ + 1 + 5 < recursionLimit; omega) ‹_› ?_; intro _ _ _ _ _ _ _) | ((with_reducible show wpAny _ _ (call (.ref _) _ _) _ _ _); refine use_gen ‹_› ‹_› ‹_› ‹_› (by first | assumption | (show _ + 1 < recursionLimit; omega)) ?_; intro _ _ _ _ _ _ _ _ _ _ _ _ _) | walk1)
    refine ⟨_, _, _, _, rfl, rfl, hgs, F6.keep, ?_⟩
    unfold chk
    rw [hn]
    cases n with
    | zero => rfl
    | succ k => 
      have : ((((k + 1 : Nat) : Int) == 0) : Bool) = false := by simp; omega
      rw [this]; rfl
theorem all (v : V) : P v := byEps (v0 := v0) (by unfold v0; rfl) main v
end kchk_spec
theorem chk_spec {w : World} {A : Around} {s : Shared} {p : Program} {loose : List Str} {mean : ExcName → Option Value} {mg : Str → Option Value} {mb : Str → Option Value} {x : Str} {t : Tok} (hx : x.length ≤ 1000) (X : (hd.heap_39 w.params).In s.heap) (T : Top p loose mean mg mb s.heap) (hroom : A.depth + 10 < recursionLimit) (hh : A.handled = none) :
    codeAny (model PySem.Challenge.rw_rs0108_01.row.prog w) A (.call (.ref 52) ⟨[.str x t], []⟩) (RetG s fun v _ => v = .bool (chk x)) s := kchk_spec.all (w, A, s, p, loose, mean, mg, mb, x, t) hx X T hroom hh
end
end Mine
end
-- part Div1
section
open PySem PySem.W PySem.Calls PyProof.Rows
namespace Mine
theorem assign2 {prog : Program} {w : World} {A : Around} {s : Shared} {h₀ : Heap} {L f D : Addr} {m : Str → Option Value} {news : List (Addr × Obj)} {cn : Str} {cs : Scope} {ccd : Value} {a b : Str} {p1 p2 pos : Pos} {k : Nat} {v1 v2 : Value} {E : Value → Shared → Prop} {Q : Unit → Shared → Prop}
    (hh : A.handled = none) (F : Fr h₀ L s.heap m) (N : News h₀ L s.heap news) (hT : s.heap.IsTuple D #[v1, v2]) (hk : cs.kind = .function) (ha : (envOf cn cs L f ccd).kindOf a = some .local) (hb : (envOf cn cs L f ccd).kindOf b = some .local)
    (h : ∀ h' tk, Fr h₀ L h' (fun y => if y = b then some v2 else if y = a then some v1 else m y) → News h₀ L h' news → Q () { s with heap := h', toks := tk }) :
    wpAny (model prog w) A (assign (.Tuple [.Name a p1, .Name b p2] k pos) (envOf cn cs L f ccd) (.ref D)) Q E s := by
  refine wpAny_assign_Tuple hh hT rfl rfl fun h₃ hx₃ => ?_
  have k₃ : ∀ b o, s.heap.get? b = some o → h₃.get? b = some o := fun b o e => hx₃ b o (Nat.ne_of_lt (Heap.lt_size e)) e
  refine wpAny_bind (wpAny_holding (wpAny_assign_Name (storeX_L (cl := []) (Fr.keeps F k₃) (News.grown N k₃) (fun h₄ F₄ N₄ => ?_) hk ha)))
  refine wpAny_bind (wpAny_holding (wpAny_assign_Name (storeX_L (cl := []) F₄ N₄ (fun h₅ F₅ N₅ => wpAny_pure ?_) hk hb)))
  exact h h₅ _ F₅ N₅
theorem pair_of {h : Heap} {D : Addr} {q q' r r' : Int} {t1 t2 : Tok} {n : Nat} (hD : h.get? D = some { cls := .type "tuple", data := .seq #[.int q' t1, .int r' t2] n }) (hq : q' = q) (hr : r' = r) : PairR q r (.ref D) h :=
  ⟨D, t1, t2, rfl, by subst hq hr; exact ⟨_, hD, rfl, _, rfl⟩⟩
section
variable {w : World} {A : Around} {s : Shared} {p : Program} {loose : List Str} {mean : ExcName → Option Value} {mg mb : Str → Option Value}
set_option maxHeartbeats 8000000 in
theorem div2_base {a b n : Nat} {ta tb tn : Tok} (hb0 : 0 < b) (hb : b < 2 ^ 8000) (ha : bitsN a ≤ n + 4000)
    (X : (hd.heap_39 w.params).In s.heap) (T : Top p loose mean mg mb s.heap) (hroom : A.depth + 5 < recursionLimit) (hh : A.handled = none) :
    codeAny (model PySem.Challenge.rw_rs0108_01.row.prog w) A (.call (.ref 59) ⟨[.int a ta, .int b tb, .int n tn], []⟩) (Ret s (PairR ((a / b : Nat) : Int) ((a % b : Nat) : Int))) s := by
  w_top off
  revert X
  k_fill
  intro X
  refine enter0 (binds := [(Str.ofString "a", .int a ta), (Str.ofString "b", .int b tb), (Str.ofString "n", .int n tn)]) X T (by k_is) (by k_is) (by omega) rfl rfl ?_ (by decide) rfl rfl rfl
  intro h₁ F N
  have hbz : (b : Int) ≠ 0 := by omega
  have hpy : Builtin.divisionGoesByPylong (a : Int) (b : Int) = false := PyProof.noPylong_of_log2 (by
    have : b.log2 < 8000 := (Nat.log2_lt (by omega)).mpr hb
    simpa using Nat.lt_trans this (by decide))
  have hc : ((Builtin.Int.intBits (a : Int) : Nat) : Int) - (n : Int) ≤ 4000 := by
    have : Builtin.Int.intBits (a : Int) ≤ n + 4000 := ha
    omega
  refine wp_cut 1 _ ?_
  dsimp only [List.take, List.drop]
  repeat' walk1
  refine PyProof.Rows.divmod_N F N hbz (fun h' F' N' => ?_) (.inl hpy)
  clear hb
  refine ⟨_, _, _, rfl, rfl, F'.keep, pair_of (N' _ (.head _)).1 ?_ ?_⟩
  · rw [Int.natCast_ediv, Int.fdiv_eq_ediv_of_nonneg _ (by omega)]
  · rw [Int.natCast_emod, Int.fmod_eq_emod_of_nonneg _ (by omega)]
theorem use_div2b {a b n : Nat} {ta tb tn : Tok} {h₀ : Heap} {L : Addr} {m : Str → Option Value} {news : List (Addr × Obj)} {E : Value → Shared → Prop} {Q : Value → Shared → Prop} (hb0 : 0 < b) (hb : b < 2 ^ 8000) (ha : bitsN a ≤ n + 4000) (X : (hd.heap_39 w.params).In h₀) (T : Top p loose mean mg mb h₀) (F : Fr h₀ L s.heap m) (N : News h₀ L s.heap news) (hroom : A.depth + 5 < recursionLimit) (hh : A.handled = none)
    (h : ∀ h' tk D t1 t2, Fr h₀ L h' m → News h₀ L h' news → h'.IsTuple D #[.int ((a / b : Nat) : Int) t1, .int ((a % b : Nat) : Int) t2] → Q (.ref D) { s with heap := h', toks := tk }) :
    wpAny (model PySem.Challenge.rw_rs0108_01.row.prog w) A (call (.ref 59) [.int a ta, .int b tb, .int n tn]) Q E s := by
  refine use_fr F N (div2_base hb0 hb ha (X.keeps F.keep) (T.keeps F.keep) hroom hh) ?_
  rintro v h' tk F' N' ⟨D, t1, t2, rfl, hT⟩
  exact h h' tk D t1 t2 F' N' hT
end
section
variable {w : World} {A : Around} {s : Shared} {p : Program} {loose : List Str} {mean : ExcName → Option Value} {mg mb : Str → Option Value}
noncomputable def W3 (a12 b1 : Nat) (n : Nat) (q r : Nat) : Prop := a12 = q * b1 + r ∧ q < 2 ^ n ∧ r < 2 ^ (n + 1) ∧ (r < b1 ∨ q = 2 ^ n - 1)
theorem w3_top {a12 b b1 b2 n : Nat} (hq : a12 / 2 ^ n = b1) (ha : a12 < b) (hb : b = b1 * 2 ^ n + b2) (hb2 : b2 < 2 ^ n) (hb1' : b1 < 2 ^ n) :
    W3 a12 b1 n (2 ^ n - 1) (a12 - b1 * 2 ^ n + b1) ∧ (a12 : Int) - ((b1 * 2 ^ n : Nat) : Int) + (b1 : Int) = ((a12 - b1 * 2 ^ n + b1 : Nat) : Int) := by
  have hp := Nat.two_pow_pos n
  have h1 := Nat.div_add_mod a12 (2 ^ n)
  have h2 := Nat.mod_lt a12 hp
  rw [hq, Nat.mul_comm] at h1
  have hs : 2 ^ (n + 1) = 2 ^ n + 2 ^ n := by rw [Nat.pow_succ]; omega
  have h3 : (2 ^ n - 1) * b1 = b1 * 2 ^ n - b1 := by rw [Nat.sub_mul, Nat.one_mul, Nat.mul_comm]
  have h4 : b1 ≤ b1 * 2 ^ n := Nat.le_mul_of_pos_right _ hp
  refine ⟨⟨?_, by omega, by omega, .inr rfl⟩, by omega⟩
  rw [h3]
  omega
theorem w3_lt {a12 b b1 b2 n : Nat} (hq : a12 / 2 ^ n ≠ b1) (ha : a12 < b) (hb : b = b1 * 2 ^ n + b2) (hb2 : b2 < 2 ^ n) : a12 < b1 * 2 ^ n := by
  have hp := Nat.two_pow_pos n
  rcases Nat.lt_or_ge a12 (b1 * 2 ^ n) with h | h
  · exact h
  · exfalso
    have h1 : b1 ≤ a12 / 2 ^ n := (Nat.le_div_iff_mul_le hp).mpr h
    have h2 : a12 / 2 ^ n < b1 + 1 := (Nat.div_lt_iff_lt_mul hp).mpr (by rw [Nat.add_mul, Nat.one_mul]; omega)
    omega
theorem w3_low {a12 b1 n : Nat} (hlt : a12 < b1 * 2 ^ n) (hb1 : 0 < b1) (hb1' : b1 < 2 ^ n) : W3 a12 b1 n (a12 / b1) (a12 % b1) := by
  have h1 := Nat.div_add_mod a12 b1
  have h2 := Nat.mod_lt a12 hb1
  have h3 : a12 / b1 < 2 ^ n := (Nat.div_lt_iff_lt_mul hb1).mpr (by rw [Nat.mul_comm]; exact hlt)
  have hs : 2 ^ (n + 1) = 2 ^ n + 2 ^ n := by rw [Nat.pow_succ]; omega
  exact ⟨by rw [Nat.mul_comm]; omega, h3, by omega, .inl h2⟩
theorem w3_below {a12 a3 b b1 b2 n q r : Nat} (h : W3 a12 b1 n q r) (hb : b = b1 * 2 ^ n + b2) (ha3 : a3 < 2 ^ n) (ha : a12 < b) : a12 * 2 ^ n + a3 < (q + 1) * b := by
  obtain ⟨h1, h2, h3, h4⟩ := h
  rcases h4 with h4 | h4
  · have e : a12 * 2 ^ n + a3 < (a12 + 1) * 2 ^ n := by rw [Nat.add_mul, Nat.one_mul]; omega
    have e2 : a12 + 1 ≤ (q + 1) * b1 := by rw [Nat.add_mul, Nat.one_mul]; omega
    have e3 := Nat.mul_le_mul_right (2 ^ n) e2
    have e4 : (q + 1) * b1 * 2 ^ n ≤ (q + 1) * b := by rw [Nat.mul_assoc]; exact Nat.mul_le_mul_left _ (by omega)
    omega
  · have hp := Nat.two_pow_pos n
    have e : a12 * 2 ^ n + a3 < (a12 + 1) * 2 ^ n := by rw [Nat.add_mul, Nat.one_mul]; omega
    have e2 := Nat.mul_le_mul_right (2 ^ n) ha
    have e3 : q + 1 = 2 ^ n := by omega
    rw [e3, Nat.mul_comm (2 ^ n) b]
    exact Nat.lt_of_lt_of_le e e2
theorem w3_rest {a12 a3 b b1 b2 n q r : Nat} (h : W3 a12 b1 n q r) (hb : b = b1 * 2 ^ n + b2) : ((r * 2 ^ n + a3 : Nat) : Int) - ((q * b2 : Nat) : Int) = ((a12 * 2 ^ n + a3 : Nat) : Int) - ((q * b : Nat) : Int) := by
  obtain ⟨h1, -⟩ := h
  have e : q * b = q * b1 * 2 ^ n + q * b2 := by rw [hb, Nat.mul_add, Nat.mul_assoc]
  have e2 : a12 * 2 ^ n = q * b1 * 2 ^ n + r * 2 ^ n := by rw [h1, Nat.add_mul]
  omega
/-- the end of the loop -/
theorem j3_end {A b q0 i : Nat} {q r : Int} (hq : q = (q0 : Int) - i) (hr : r = (A : Int) - ((q0 * b : Nat) : Int) + i * b) (h0 : 0 ≤ r) (h1 : r < b) : q = ((A / b : Nat) : Int) ∧ r = ((A % b : Nat) : Int) := by
  have hb : (0 : Int) < b := by omega
  have e : r + b * q = A := by rw [hq, hr, Int.mul_sub, Int.natCast_mul, Int.mul_comm (q0 : Int) b, Int.mul_comm (i : Int) b]; omega
  have := kbt_unique hb e h0 h1
  rw [Int.natCast_ediv, Int.natCast_emod]
  exact ⟨this.1.symm, this.2.symm⟩
noncomputable def J3 (q0 b A : Nat) (k : Nat) (m : Str → Option Value) (_ : List (Addr × Obj)) : Prop :=
  ∃ (i : Nat) (q r : Int), ∃ t1 t2 t3, m (Str.ofString "q") = some (.int q t1) ∧ m (Str.ofString "r") = some (.int r t2) ∧ m (Str.ofString "b") = some (.int b t3) ∧ q = (q0 : Int) - i ∧ r = (A : Int) - ((q0 * b : Nat) : Int) + i * b ∧ k = (-r).toNat ∧ r < b
end
section
namespace kdiv3_spec
noncomputable abbrev V := (World) × (Around) × (Shared) × (Program) × (List Str) × (ExcName → Option Value) × (Str → Option Value) × (Str → Option Value) × (Nat) × (Nat) × (Nat) × (Nat) × (Nat) × (Nat) × (Tok) × (Tok) × (Tok) × (Tok) × (Tok) × (Tok)
noncomputable def P (v : V) : Prop :=
  (fun (w : World) (A : Around) (s : Shared) (p : Program) (loose : List Str) (mean : ExcName → Option Value) (mg : Str → Option Value) (mb : Str → Option Value) (a12 : Nat) (a3 : Nat) (b : Nat) (b1 : Nat) (b2 : Nat) (n : Nat) (t1 : Tok) (t2 : Tok) (t3 : Tok) (t4 : Tok) (t5 : Tok) (t6 : Tok) =>
  ∀ (hb : b = b1 * 2 ^ n + b2) (hb2 : b2 < 2 ^ n) (ha3 : a3 < 2 ^ n) (ha : a12 < b) (hb1 : 0 < b1) (hb1' : b1 < 2 ^ n) (hn : n ≤ 3000) (X : (hd.heap_39 w.params).In s.heap) (T : Top p loose mean mg mb s.heap) (hroom : A.depth + 15 < recursionLimit) (hh : A.handled = none), codeAny (model PySem.Challenge.rw_rs0108_01.row.prog w) A (.call (.ref 66) ⟨[.int a12 t1, .int a3 t2, .int b t3, .int b1 t4, .int b2 t5, .int n t6], []⟩) (Ret s (PairR (((a12 * 2 ^ n + a3) / b : Nat) : Int) (((a12 * 2 ^ n + a3) % b : Nat) : Int))) s)
    v.1 v.2.1 v.2.2.1 v.2.2.2.1 v.2.2.2.2.1 v.2.2.2.2.2.1 v.2.2.2.2.2.2.1 v.2.2.2.2.2.2.2.1 v.2.2.2.2.2.2.2.2.1 v.2.2.2.2.2.2.2.2.2.1 v.2.2.2.2.2.2.2.2.2.2.1 v.2.2.2.2.2.2.2.2.2.2.2.1 v.2.2.2.2.2.2.2.2.2.2.2.2.1 v.2.2.2.2.2.2.2.2.2.2.2.2.2.1 v.2.2.2.2.2.2.2.2.2.2.2.2.2.2.1 v.2.2.2.2.2.2.2.2.2.2.2.2.2.2.2.1 v.2.2.2.2.2.2.2.2.2.2.2.2.2.2.2.2.1 v.2.2.2.2.2.2.2.2.2.2.2.2.2.2.2.2.2.1 v.2.2.2.2.2.2.2.2.2.2.2.2.2.2.2.2.2.2.1 v.2.2.2.2.2.2.2.2.2.2.2.2.2.2.2.2.2.2.2
@[irreducible] noncomputable def v0 : V := @Classical.epsilon V ⟨(aW, callerA, {}, PySem.Challenge.rw_rs0108_01.row.prog, [], fun _ => none, fun _ => none, fun _ => none, 0, 0, 0, 0, 0, 0, 0, 0, 0, 0, 0, 0)⟩ fun v => ¬ P v
noncomputable def w : World := v0.1
noncomputable def A : Around := v0.2.1
noncomputable def s : Shared := v0.2.2.1
noncomputable def p : Program := v0.2.2.2.1
noncomputable def loose : List Str := v0.2.2.2.2.1
noncomputable def mean : ExcName → Option Value := v0.2.2.2.2.2.1
noncomputable def mg : Str → Option Value := v0.2.2.2.2.2.2.1
noncomputable def mb : Str → Option Value := v0.2.2.2.2.2.2.2.1
noncomputable def a12 : Nat := v0.2.2.2.2.2.2.2.2.1
noncomputable def a3 : Nat := v0.2.2.2.2.2.2.2.2.2.1
noncomputable def b : Nat := v0.2.2.2.2.2.2.2.2.2.2.1
noncomputable def b1 : Nat := v0.2.2.2.2.2.2.2.2.2.2.2.1
noncomputable def b2 : Nat := v0.2.2.2.2.2.2.2.2.2.2.2.2.1
noncomputable def n : Nat := v0.2.2.2.2.2.2.2.2.2.2.2.2.2.1
noncomputable def t1 : Tok := v0.2.2.2.2.2.2.2.2.2.2.2.2.2.2.1
noncomputable def t2 : Tok := v0.2.2.2.2.2.2.2.2.2.2.2.2.2.2.2.1
noncomputable def t3 : Tok := v0.2.2.2.2.2.2.2.2.2.2.2.2.2.2.2.2.1
noncomputable def t4 : Tok := v0.2.2.2.2.2.2.2.2.2.2.2.2.2.2.2.2.2.1
noncomputable def t5 : Tok := v0.2.2.2.2.2.2.2.2.2.2.2.2.2.2.2.2.2.2.1
noncomputable def t6 : Tok := v0.2.2.2.2.2.2.2.2.2.2.2.2.2.2.2.2.2.2.2
set_option maxHeartbeats 8000000 in
theorem main (hb : b = b1 * 2 ^ n + b2) (hb2 : b2 < 2 ^ n) (ha3 : a3 < 2 ^ n) (ha : a12 < b) (hb1 : 0 < b1) (hb1' : b1 < 2 ^ n) (hn : n ≤ 3000) (X : (hd.heap_39 w.params).In s.heap) (T : Top p loose mean mg mb s.heap) (hroom : A.depth + 15 < recursionLimit) (hh : A.handled = none) :
    codeAny (model PySem.Challenge.rw_rs0108_01.row.prog w) A (.call (.ref 66) ⟨[.int a12 t1, .int a3 t2, .int b t3, .int b1 t4, .int b2 t5, .int n t6], []⟩) (Ret s (PairR (((a12 * 2 ^ n + a3) / b : Nat) : Int) (((a12 * 2 ^ n + a3) % b : Nat) : Int))) s := by
  w_top off
  revert X
  k_fill
  intro X
  refine enter0 (binds := [(Str.ofString "a12", .int a12 t1), (Str.ofString "a3", .int a3 t2), (Str.ofString "b", .int b t3), (Str.ofString "b1", .int b1 t4), (Str.ofString "b2", .int b2 t5), (Str.ofString "n", .int n t6)]) X T (by k_is) (by k_is) (by omega) rfl rfl ?_ (by decide) rfl rfl rfl
  intro h₁ F N
  have hb8 : b1 < 2 ^ 8000 := Nat.lt_of_lt_of_le hb1' (Nat.pow_le_pow_right (by decide) (by omega))
  have hs1 : bitsN b1 + n ≤ 2 ^ 27 := by have := bitsN_le.mpr hb1'; omega
  refine wp_cut 1 _ ?_
  dsimp only [List.take, List.drop]
  repeat' (first | ((with_reducible show wpAny _ _ (call (.ref _) _ _) _ _ _); refine use_div2b ‹_› ‹_› ‹_› ‹_› ‹_› ‹_› ‹_› (by show _ + 1 + 5 < recursionLimit; omega) ‹_› ?_; intro _ _ _ _ _ _ _ _) | ((with_reducible show wpAny _ _ (unpackItems (.ref _) _ _) _ _ _); refine unpackItemsN_ ‹_› ‹_› (News.isTup ‹_› (.head _)) ‹_› rfl ?_; intro _ _ _) | ((with_reducible show wpAny _ _ (binaryOp _ (.int _ _) (.int _ _)) _ _ _); first | with_reducible (refine mulN ?_ ‹_› ‹_›) | with_reducible (refine orN ‹_› ?_) | with_reducible (first | refine sub1N ?_ | (refine subN ‹_› ?_) | refine PyProof.Rows.sub_int ?_) | with_reducible (first | (refine shl1N (by omega) ?_) | (refine shlN ‹_› ?_)) | with_reducible (first | refine rshN1 ?_ | refine rshN ?_)) | walk1)
  rename Fr _ _ _ _ => F'
  rename (((a12 / 2 ^ n : Nat) : Int) = (b1 : Int)) => hq
  have hq : a12 / 2 ^ n = b1 := Int.ofNat.inj hq
  obtain ⟨hW, hr⟩ := w3_top hq ha hb hb2 hb1'
  rw [hr] at F'
  generalize 2 ^ n - 1 = q at F' hW
  generalize a12 - b1 * 2 ^ n + b1 = r at F' hW
  clear hr hq
  have N0 : News s.heap s.heap.objs.size _ [] := News.nil (h := ‹Heap›)
  rotate_left
  have hlt : a12 < b1 * 2 ^ n := by
    rename (((a12 / 2 ^ n : Nat) : Int) ≠ (b1 : Int)) => hq
    have hq : a12 / 2 ^ n ≠ b1 := fun e => hq (by rw [e])
    exact w3_lt hq ha hb hb2
  have hab : bitsN a12 ≤ n + 4000 := bitsN_le.mpr (by
    have h1 : b1 * 2 ^ n ≤ 2 ^ n * 2 ^ n := Nat.mul_le_mul_right _ (Nat.le_of_lt hb1')
    rw [← Nat.pow_add] at h1
    exact Nat.lt_of_lt_of_le (Nat.lt_of_lt_of_le hlt h1) (Nat.pow_le_pow_right (by decide) (by omega)))
  refine use_div2b hb1 hb8 hab X T F N (by show _ + 1 + 5 < recursionLimit; omega) hh ?_
  intro h' tk' D' t1' t2' F2 N2 hT'
  refine assign2 hh F2 N2 hT' rfl rfl rfl fun h3 tk3 F' N3 => ?_
  have hW := w3_low (b1 := b1) (n := n) hlt hb1 hb1'
  generalize a12 / b1 = q at F' hW
  generalize a12 % b1 = r at F' hW
  clear hT' F N F2 N2 hlt hab
  repeat' (first | ((with_reducible show wpAny _ _ (call (.ref _) _ _) _ _ _); refine use_div2b ‹_› ‹_› ‹_› ‹_› ‹_› ‹_› ‹_› (by show _ + 1 + 5 < recursionLimit; omega) ‹_› ?_; intro _ _ _ _ _ _ _ _) | ((with_reducible show wpAny _ _ (unpackItems (.ref _) _ _) _ _ _); refine unpackItemsN_ ‹_› ‹_› (News.isTup ‹_› (.head _)) ‹_› rfl ?_; intro _ _ _) | ((with_reducible show wpAny _ _ (binaryOp _ (.int _ _) (.int _ _)) _ _ _); first | with_reducible (refine mulN ?_ ‹_› ‹_›) | with_reducible (refine orN ‹_› ?_) | with_reducible (first | refine sub1N ?_ | (refine subN ‹_› ?_) | refine PyProof.Rows.sub_int ?_) | with_reducible (first | (refine shl1N (by omega) ?_) | (refine shlN ‹_› ?_)) | with_reducible (first | refine rshN1 ?_ | refine rshN ?_)) | walk1)
  all_goals
    refine .mk ?_
    rename Fr _ _ _ _ => F'
    have hbe := w3_below hW hb ha3 ha
    have hre := w3_rest (a3 := a3) hW hb
    obtain ⟨-, hq2, hr2, -⟩ := hW
    have hs2 : bitsN r + n ≤ 2 ^ 27 := by have := bitsN_le.mpr hr2; omega
    have hs3 : bitsN q ≤ 2 ^ 20 := by have := bitsN_le.mpr hq2; omega
    have hs4 : bitsN b2 ≤ 2 ^ 20 := by have := bitsN_le.mpr hb2; omega
    refine wp_cut 1 _ ?_
    dsimp only [List.take, List.drop]
    repeat' (first | ((with_reducible show wpAny _ _ (call (.ref _) _ _) _ _ _); refine use_div2b ‹_› ‹_› ‹_› ‹_› ‹_› ‹_› ‹_› (by show _ + 1 + 5 < recursionLimit; omega) ‹_› ?_; intro _ _ _ _ _ _ _ _) | ((with_reducible show wpAny _ _ (unpackItems (.ref _) _ _) _ _ _); refine unpackItemsN_ ‹_› ‹_› (News.isTup ‹_› (.head _)) ‹_› rfl ?_; intro _ _ _) | ((with_reducible show wpAny _ _ (binaryOp _ (.int _ _) (.int _ _)) _ _ _); first | with_reducible (refine mulN ?_ ‹_› ‹_›) | with_reducible (refine orN ‹_› ?_) | with_reducible (first | refine sub1N ?_ | (refine subN ‹_› ?_) | refine PyProof.Rows.sub_int ?_) | with_reducible (first | (refine shl1N (by omega) ?_) | (refine shlN ‹_› ?_)) | with_reducible (first | refine rshN1 ?_ | refine rshN ?_)) | walk1)
    refine .mk ?_
    rename Fr _ _ _ _ => F5
    rw [hre] at F5
  all_goals
    rename News _ _ _ _ => N5
    have hr0 : ((a12 * 2 ^ n + a3 : Nat) : Int) - ((q * b : Nat) : Int) < b := by
      rw [Nat.add_mul, Nat.one_mul] at hbe; omega
    have hbp : (0 : Int) < b := by omega
    clear hre hbe hs2 hs3 hs4 hr2 hq2
    refine wpAny_execs_cons (While_inv (J3 q b (a12 * 2 ^ n + a3)) F5 N5 ⟨0, _, _, _, _, _, rfl, rfl, rfl, by simp, by simp, rfl, hr0⟩ ?_)
    rintro k m₁ news₁ h6 tk6 F6 N6 ⟨i, q', r', t1', t2', t3', m1, m2, m3, hq', hr', rfl, hlt⟩
    have F7 := fr_known (k := Str.ofString "q") (fr_known (k := Str.ofString "r") (fr_known (k := Str.ofString "b") F6 m3) m2) m1
    clear F5 F6
    repeat' (first | ((with_reducible show wpAny _ _ (call (.ref _) _ _) _ _ _); refine use_div2b ‹_› ‹_› ‹_› ‹_› ‹_› ‹_› ‹_› (by show _ + 1 + 5 < recursionLimit; omega) ‹_› ?_; intro _ _ _ _ _ _ _ _) | ((with_reducible show wpAny _ _ (unpackItems (.ref _) _ _) _ _ _); refine unpackItemsN_ ‹_› ‹_› (News.isTup ‹_› (.head _)) ‹_› rfl ?_; intro _ _ _) | ((with_reducible show wpAny _ _ (binaryOp _ (.int _ _) (.int _ _)) _ _ _); first | with_reducible (refine mulN ?_ ‹_› ‹_›) | with_reducible (refine orN ‹_› ?_) | with_reducible (first | refine sub1N ?_ | (refine subN ‹_› ?_) | refine PyProof.Rows.sub_int ?_) | with_reducible (first | (refine shl1N (by omega) ?_) | (refine shlN ‹_› ?_)) | with_reducible (first | refine rshN1 ?_ | refine rshN ?_)) | walk1)
  all_goals
    rename Fr _ _ _ _ => F'
    rename News _ _ _ _ => N'
    clear hb8 hs1 T X hb hb2 ha3 ha hb1 hb1'
  · refine WhileStep.intro (n' := (-(r' + (b : Int))).toNat) F' N' (by omega) ⟨i + 1, _, _, _, _, _, rfl, rfl, rfl, ?_, ?_, rfl, by omega⟩
    · rw [hq']; omega
    · have e : ((i + 1 : Nat) : Int) * b = i * b + b := by rw [Int.natCast_add, Int.add_mul, Int.natCast_one, Int.one_mul]
      rw [hr', e]; omega
  · obtain ⟨e1, e2⟩ := j3_end hq' hr' (by omega) hlt
    exact ⟨_, _, _, rfl, rfl, F'.keep, pair_of (N' _ (.head _)).1 e1 e2⟩
  · refine WhileStep.intro (n' := (-(r' + (b : Int))).toNat) F' N' (by omega) ⟨i + 1, _, _, _, _, _, rfl, rfl, rfl, ?_, ?_, rfl, by omega⟩
    · rw [hq']; omega
    · have e : ((i + 1 : Nat) : Int) * b = i * b + b := by rw [Int.natCast_add, Int.add_mul, Int.natCast_one, Int.one_mul]
      rw [hr', e]; omega
  · obtain ⟨e1, e2⟩ := j3_end hq' hr' (by omega) hlt
    exact ⟨_, _, _, rfl, rfl, F'.keep, pair_of (N' _ (.head _)).1 e1 e2⟩
theorem all (v : V) : P v := byEps (v0 := v0) (by unfold v0; rfl) main v
end kdiv3_spec
theorem div3_spec {w : World} {A : Around} {s : Shared} {p : Program} {loose : List Str} {mean : ExcName → Option Value} {mg : Str → Option Value} {mb : Str → Option Value} {a12 a3 b b1 b2 n : Nat} {t1 t2 t3 t4 t5 t6 : Tok} (hb : b = b1 * 2 ^ n + b2) (hb2 : b2 < 2 ^ n) (ha3 : a3 < 2 ^ n) (ha : a12 < b) (hb1 : 0 < b1) (hb1' : b1 < 2 ^ n) (hn : n ≤ 3000) (X : (hd.heap_39 w.params).In s.heap) (T : Top p loose mean mg mb s.heap) (hroom : A.depth + 15 < recursionLimit) (hh : A.handled = none) :
    codeAny (model PySem.Challenge.rw_rs0108_01.row.prog w) A (.call (.ref 66) ⟨[.int a12 t1, .int a3 t2, .int b t3, .int b1 t4, .int b2 t5, .int n t6], []⟩) (Ret s (PairR (((a12 * 2 ^ n + a3) / b : Nat) : Int) (((a12 * 2 ^ n + a3) % b : Nat) : Int))) s := kdiv3_spec.all (w, A, s, p, loose, mean, mg, mb, a12, a3, b, b1, b2, n, t1, t2, t3, t4, t5, t6) hb hb2 ha3 ha hb1 hb1' hn X T hroom hh
end
section
variable {w : World} {A : Around} {s : Shared} {p : Program} {loose : List Str} {mean : ExcName → Option Value} {mg mb : Str → Option Value}
theorem use_div3 {a12 a3 b b1 b2 n : Nat} {t1 t2 t3 t4 t5 t6 : Tok} {h₀ : Heap} {L : Addr} {m : Str → Option Value} {news : List (Addr × Obj)} {E : Value → Shared → Prop} {Q : Value → Shared → Prop} (hb : b = b1 * 2 ^ n + b2) (hb2 : b2 < 2 ^ n) (ha3 : a3 < 2 ^ n) (ha : a12 < b) (hb1 : 0 < b1) (hb1' : b1 < 2 ^ n) (hn : n ≤ 3000)
    (X : (hd.heap_39 w.params).In h₀) (T : Top p loose mean mg mb h₀) (F : Fr h₀ L s.heap m) (N : News h₀ L s.heap news) (hroom : A.depth + 15 < recursionLimit) (hh : A.handled = none)
    (h : ∀ h' tk D t1 t2, Fr h₀ L h' m → News h₀ L h' news → h'.IsTuple D #[.int (((a12 * 2 ^ n + a3) / b : Nat) : Int) t1, .int (((a12 * 2 ^ n + a3) % b : Nat) : Int) t2] → Q (.ref D) { s with heap := h', toks := tk }) :
    wpAny (model PySem.Challenge.rw_rs0108_01.row.prog w) A (call (.ref 66) [.int a12 t1, .int a3 t2, .int b t3, .int b1 t4, .int b2 t5, .int n t6]) Q E s := by
  refine use_fr F N (div3_spec hb hb2 ha3 ha hb1 hb1' hn (X.keeps F.keep) (T.keeps F.keep) hroom hh) ?_
  rintro v h' tk F' N' ⟨D, t1, t2, rfl, hT⟩
  exact h h' tk D t1 t2 F' N' hT
end
end Mine
end
-- part Div2
section
open PySem PySem.W PySem.Calls PyProof.Rows
namespace Mine
/-- division by halves -/
theorem halves {a b k : Nat} (hb0 : 0 < b) (hb : b < 2 ^ (2 * k)) (hb' : 2 ^ (2 * k) ≤ 2 * b) (ha : a < 2 ^ (2 * k) * b) (hk : 0 < k) :
    b = b / 2 ^ k * 2 ^ k + b % 2 ^ k ∧ b % 2 ^ k < 2 ^ k ∧ 0 < b / 2 ^ k ∧ b / 2 ^ k < 2 ^ k ∧ a / 2 ^ (2 * k) < b ∧ a / 2 ^ k % 2 ^ k < 2 ^ k ∧ a % 2 ^ k < 2 ^ k ∧ a / 2 ^ k % b < b ∧
    a / 2 ^ (2 * k) * 2 ^ k + a / 2 ^ k % 2 ^ k = a / 2 ^ k ∧ a / 2 ^ k / b < 2 ^ k ∧ (a / 2 ^ k % b * 2 ^ k + a % 2 ^ k) / b < 2 ^ k ∧
    a / 2 ^ k / b * 2 ^ k + (a / 2 ^ k % b * 2 ^ k + a % 2 ^ k) / b = a / b ∧ (a / 2 ^ k % b * 2 ^ k + a % 2 ^ k) % b = a % b := by
  have hp := Nat.two_pow_pos k
  have hpp : 2 ^ (2 * k) = 2 ^ k * 2 ^ k := by rw [show 2 * k = k + k by omega, Nat.pow_add]
  rw [hpp] at hb hb' ha ⊢
  have h1 := Nat.div_add_mod b (2 ^ k)
  have h2 := Nat.mod_lt b hp
  have h3 := Nat.div_add_mod a (2 ^ k)
  have h4 := Nat.mod_lt a hp
  have h5 := Nat.div_add_mod (a / 2 ^ k) (2 ^ k)
  have h6 := Nat.mod_lt (a / 2 ^ k) hp
  have h7 := Nat.div_add_mod (a / 2 ^ k) b
  have h8 := Nat.mod_lt (a / 2 ^ k) hb0
  have hq1 : a / 2 ^ k < 2 ^ k * b := (Nat.div_lt_iff_lt_mul hp).mpr (by rw [Nat.mul_right_comm]; exact ha)
  have hq2 : a / 2 ^ k % b * 2 ^ k + a % 2 ^ k < 2 ^ k * b := by
    have e : a / 2 ^ k % b * 2 ^ k + a % 2 ^ k < (a / 2 ^ k % b + 1) * 2 ^ k := by rw [Nat.add_mul, Nat.one_mul]; omega
    have e2 := Nat.mul_le_mul_right (2 ^ k) (Nat.succ_le_of_lt h8)
    rw [Nat.mul_comm b] at e2
    exact Nat.lt_of_lt_of_le e e2
  have hd : a / 2 ^ k / 2 ^ k = a / (2 ^ k * 2 ^ k) := Nat.div_div_eq_div_mul ..
  have ea : a = b * (a / 2 ^ k / b * 2 ^ k) + (a / 2 ^ k % b * 2 ^ k + a % 2 ^ k) := by
    have e1 : a / 2 ^ k * 2 ^ k = b * (a / 2 ^ k / b) * 2 ^ k + a / 2 ^ k % b * 2 ^ k := by rw [← Nat.add_mul, h7]
    rw [← Nat.mul_assoc]
    rw [Nat.mul_comm] at h3
    omega
  refine ⟨by rw [Nat.mul_comm]; omega, h2, ?_, (Nat.div_lt_iff_lt_mul hp).mpr hb, (Nat.div_lt_iff_lt_mul (Nat.mul_pos hp hp)).mpr (by rw [Nat.mul_comm]; exact ha), h6, h4, h8, ?_, ?_, ?_, ?_, ?_⟩
  · refine Nat.div_pos ?_ hp
    have : 2 ≤ 2 ^ k := by
      have := Nat.pow_le_pow_right (n := 2) (by decide) hk
      simpa using this
    have := Nat.mul_le_mul_right (2 ^ k) this
    omega
  · rw [← hd, Nat.mul_comm]; exact h5
  · exact (Nat.div_lt_iff_lt_mul hb0).mpr hq1
  · exact (Nat.div_lt_iff_lt_mul hb0).mpr hq2
  · conv => rhs; rw [ea, Nat.add_comm, Nat.add_mul_div_left _ _ hb0]
    rw [Nat.add_comm]
  · conv => rhs; rw [ea, Nat.add_comm, Nat.add_mul_mod_self_left]
section
variable {w : World} {A : Around} {s : Shared} {p : Program} {loose : List Str} {mean : ExcName → Option Value} {mg mb : Str → Option Value}
noncomputable def Hv (a b k : Nat) : Prop := b = b / 2 ^ k * 2 ^ k + b % 2 ^ k ∧ b % 2 ^ k < 2 ^ k ∧ 0 < b / 2 ^ k ∧ b / 2 ^ k < 2 ^ k ∧ a / 2 ^ (2 * k) < b ∧ a / 2 ^ k % 2 ^ k < 2 ^ k ∧ a % 2 ^ k < 2 ^ k ∧ a / 2 ^ k % b < b ∧
    a / 2 ^ (2 * k) * 2 ^ k + a / 2 ^ k % 2 ^ k = a / 2 ^ k ∧ a / 2 ^ k / b < 2 ^ k ∧ (a / 2 ^ k % b * 2 ^ k + a % 2 ^ k) / b < 2 ^ k ∧
    a / 2 ^ k / b * 2 ^ k + (a / 2 ^ k % b * 2 ^ k + a % 2 ^ k) / b = a / b ∧ (a / 2 ^ k % b * 2 ^ k + a % 2 ^ k) % b = a % b
noncomputable def J2 (s : Shared) (a b n : Nat) (s' : Shared) : Prop := ∃ h' tk a' b' k m ta tb tn tp, s' = { s with heap := h', toks := tk } ∧ Fr s.heap s.heap.objs.size h' m ∧ News s.heap s.heap.objs.size h' [] ∧
    m (Str.ofString "a") = some (.int ((a' : Nat) : Int) ta) ∧ m (Str.ofString "b") = some (.int ((b' : Nat) : Int) tb) ∧ m (Str.ofString "n") = some (.int ((2 * k : Nat) : Int) tn) ∧ m (Str.ofString "pad") = some (.int ((n % 2 : Nat) : Int) tp) ∧
    Hv a' b' k ∧ a' / b' = a / b ∧ (n % 2 = 1 → a' % b' / 2 = a % b) ∧ (n % 2 = 0 → a' % b' = a % b) ∧ k ≤ 2600
end
section
namespace kdiv2_big
noncomputable abbrev V := (World) × (Around) × (Shared) × (Program) × (List Str) × (ExcName → Option Value) × (Str → Option Value) × (Str → Option Value) × (Tok) × (Tok) × (Tok)
noncomputable def P (v : V) : Prop :=
  (fun (w : World) (A : Around) (s : Shared) (p : Program) (loose : List Str) (mean : ExcName → Option Value) (mg : Str → Option Value) (mb : Str → Option Value) (ta : Tok) (tb : Tok) (tn : Tok) =>
  ∀ (a b n : Nat) (hb0 : 0 < b) (hb : b < 2 ^ n) (hb' : 2 ^ n ≤ 2 * b) (ha : a < 2 ^ n * b) (hn : n ≤ 5000) (hbig : ¬ bitsN a ≤ n + 4000) (X : (hd.heap_39 w.params).In s.heap) (T : Top p loose mean mg mb s.heap) (hroom : A.depth + 25 < recursionLimit) (hh : A.handled = none), codeAny (model PySem.Challenge.rw_rs0108_01.row.prog w) A (.call (.ref 59) ⟨[.int a ta, .int b tb, .int n tn], []⟩) (Ret s (PairR ((a / b : Nat) : Int) ((a % b : Nat) : Int))) s)
    v.1 v.2.1 v.2.2.1 v.2.2.2.1 v.2.2.2.2.1 v.2.2.2.2.2.1 v.2.2.2.2.2.2.1 v.2.2.2.2.2.2.2.1 v.2.2.2.2.2.2.2.2.1 v.2.2.2.2.2.2.2.2.2.1 v.2.2.2.2.2.2.2.2.2.2
@[irreducible] noncomputable def v0 : V := @Classical.epsilon V ⟨(aW, callerA, {}, PySem.Challenge.rw_rs0108_01.row.prog, [], fun _ => none, fun _ => none, fun _ => none, 0, 0, 0)⟩ fun v => ¬ P v
noncomputable def w : World := v0.1
noncomputable def A : Around := v0.2.1
noncomputable def s : Shared := v0.2.2.1
noncomputable def p : Program := v0.2.2.2.1
noncomputable def loose : List Str := v0.2.2.2.2.1
noncomputable def mean : ExcName → Option Value := v0.2.2.2.2.2.1
noncomputable def mg : Str → Option Value := v0.2.2.2.2.2.2.1
noncomputable def mb : Str → Option Value := v0.2.2.2.2.2.2.2.1
noncomputable def ta : Tok := v0.2.2.2.2.2.2.2.2.1
noncomputable def tb : Tok := v0.2.2.2.2.2.2.2.2.2.1
noncomputable def tn : Tok := v0.2.2.2.2.2.2.2.2.2.2
set_option maxHeartbeats 8000000 in
theorem main (a b n : Nat) (hb0 : 0 < b) (hb : b < 2 ^ n) (hb' : 2 ^ n ≤ 2 * b) (ha : a < 2 ^ n * b) (hn : n ≤ 5000) (hbig : ¬ bitsN a ≤ n + 4000) (X : (hd.heap_39 w.params).In s.heap) (T : Top p loose mean mg mb s.heap) (hroom : A.depth + 25 < recursionLimit) (hh : A.handled = none) :
    codeAny (model PySem.Challenge.rw_rs0108_01.row.prog w) A (.call (.ref 59) ⟨[.int a ta, .int b tb, .int n tn], []⟩) (Ret s (PairR ((a / b : Nat) : Int) ((a % b : Nat) : Int))) s := by
  w_top off
  revert X
  k_fill
  intro X
  refine enter0 (binds := [(Str.ofString "a", .int a ta), (Str.ofString "b", .int b tb), (Str.ofString "n", .int n tn)]) X T (by k_is) (by k_is) (by omega) rfl rfl ?_ (by decide) rfl rfl rfl
  intro h₁ F N
  have hab : a < 2 ^ (n + n) := by
    rw [Nat.pow_add]
    exact Nat.lt_of_lt_of_le ha (Nat.mul_le_mul_left _ (Nat.le_of_lt hb))
  have hba := bitsN_le.mpr hab
  have hbb := bitsN_le.mpr hb
  have hs1 : bitsN a + 1 ≤ 2 ^ 27 := by omega
  have hs2 : bitsN b + 1 ≤ 2 ^ 27 := by omega
  have hn4 : 4000 < n := by omega
  have hc : ¬ ((Builtin.Int.intBits (a : Int) : Nat) : Int) - (n : Int) ≤ 4000 := by
    have : ¬ Builtin.Int.intBits (a : Int) ≤ n + 4000 := hbig
    omega
  refine wp_cutJ 3 _ (J2 s a b n) ?_ ?_
  rotate_left
  · rintro s' ⟨h', tk, a', b', k, m, ta', tb', tn', tp', rfl, F6, N6, m1, m2, m3, m4, hv, e1, e2, e3, hk2⟩
    have hpd : (n % 2 : Nat) = 0 ∨ (n % 2 : Nat) = 1 := by omega
    dsimp only [List.drop]
    clear hab hba hbb hs1 hs2 hc hbig ha hb hb'
    have F7 := fr_known (k := Str.ofString "a") (fr_known (k := Str.ofString "b") (fr_known (k := Str.ofString "n") (fr_known (k := Str.ofString "pad") F6 m4) m3) m2) m1
    clear F6
    obtain ⟨v1, v2, v3, v4, v5, v6, v7, v8, v9, v10, v11, v12, v13⟩ := hv
    rw [← v9] at v10
    have hs3 : bitsN ((a' / 2 ^ (2 * k) * 2 ^ k + a' / 2 ^ k % 2 ^ k) / b') + k ≤ 2 ^ 27 := by have := bitsN_le.mpr v10; omega
    have v8' : (a' / 2 ^ (2 * k) * 2 ^ k + a' / 2 ^ k % 2 ^ k) % b' < b' := by rw [v9]; exact v8
    have v11' : ((a' / 2 ^ (2 * k) * 2 ^ k + a' / 2 ^ k % 2 ^ k) % b' * 2 ^ k + a' % 2 ^ k) / b' < 2 ^ k := by rw [v9]; exact v11
    refine wp_cut 1 _ ?_
    dsimp only [List.take, List.drop]
    repeat' (first | ((with_reducible show wpAny _ _ (call (.ref _) _ _) _ _ _); refine use_div3 ‹_› ‹_› ‹_› ‹_› ‹_› ‹_› (by omega) ‹_› ‹_› ‹_› ‹_› (by show _ + 1 + 15 < recursionLimit; omega) ‹_› ?_; intro _ _ _ _ _ _ _ _) | ((with_reducible show wpAny _ _ (assign (.Tuple ..) _ _) _ _ _); refine assign2 ‹_› ‹_› ‹_› ‹_› rfl rfl rfl ?_; intro _ _ _ _) | ((with_reducible show wpAny _ _ (unpackItems (.ref _) _ _) _ _ _); refine unpackItemsN_ ‹_› ‹_› (News.isTup ‹_› (.head _)) ‹_› rfl ?_; intro _ _ _) | ((with_reducible show wpAny _ _ (binaryOp _ (.int _ _) (.int _ _)) _ _ _); first | with_reducible (refine orN ‹_› ?_) | with_reducible (first | refine andN1 ?_ | refine andN ?_) | with_reducible (first | refine sub1N ?_ | (refine subN ‹_› ?_) | refine PyProof.Rows.sub_int ?_) | with_reducible (first | (refine shl1N (by omega) ?_) | (refine shlN ‹_› ?_)) | with_reducible (first | refine rshN1 ?_ | refine rshN ?_)) | ((with_reducible show wpAny _ _ (inplaceOp _ (.int _ _) (.int _ _)) _ _ _); first | with_reducible (refine iadd1N ?_) | with_reducible (refine ishlN1 ‹_› ?_) | with_reducible (refine irshN1 ?_)) | walk1)
    refine .mk ?_
    rename Fr _ _ _ _ => F8
    have hkk : 2 * k / 2 = k := by omega
    rw [hkk] at F8
    dsimp only [List.take, List.drop]
    repeat' (first | ((with_reducible show wpAny _ _ (call (.ref _) _ _) _ _ _); refine use_div3 ‹_› ‹_› ‹_› ‹_› ‹_› ‹_› (by omega) ‹_› ‹_› ‹_› ‹_› (by show _ + 1 + 15 < recursionLimit; omega) ‹_› ?_; intro _ _ _ _ _ _ _ _) | ((with_reducible show wpAny _ _ (assign (.Tuple ..) _ _) _ _ _); refine assign2 ‹_› ‹_› ‹_› ‹_› rfl rfl rfl ?_; intro _ _ _ _) | ((with_reducible show wpAny _ _ (unpackItems (.ref _) _ _) _ _ _); refine unpackItemsN_ ‹_› ‹_› (News.isTup ‹_› (.head _)) ‹_› rfl ?_; intro _ _ _) | ((with_reducible show wpAny _ _ (binaryOp _ (.int _ _) (.int _ _)) _ _ _); first | with_reducible (refine orN ‹_› ?_) | with_reducible (first | refine andN1 ?_ | refine andN ?_) | with_reducible (first | refine sub1N ?_ | (refine subN ‹_› ?_) | refine PyProof.Rows.sub_int ?_) | with_reducible (first | (refine shl1N (by omega) ?_) | (refine shlN ‹_› ?_)) | with_reducible (first | refine rshN1 ?_ | refine rshN ?_)) | ((with_reducible show wpAny _ _ (inplaceOp _ (.int _ _) (.int _ _)) _ _ _); first | with_reducible (refine iadd1N ?_) | with_reducible (refine ishlN1 ‹_› ?_) | with_reducible (refine irshN1 ?_)) | walk1)
    all_goals
      rename Fr _ _ _ _ => F'
      rename News _ _ _ _ => N'
      refine ⟨_, _, _, rfl, rfl, F'.keep, pair_of (N' _ (.head _)).1 ?_ ?_⟩
      · rw [v9, v12, e1]
      · rw [v9, v13]
        clear v1 v2 v3 v4 v5 v6 v7 v8 v9 v10 v11 v12 v13 v8' v11' hs3
        first
          | (rw [e2 (by omega)])
          | (rw [e3 (by omega)])
  dsimp only [List.take]
  repeat' (first | ((with_reducible show wpAny _ _ (call (.ref _) _ _) _ _ _); refine use_div3 ‹_› ‹_› ‹_› ‹_› ‹_› ‹_› (by omega) ‹_› ‹_› ‹_› ‹_› (by show _ + 1 + 15 < recursionLimit; omega) ‹_› ?_; intro _ _ _ _ _ _ _ _) | ((with_reducible show wpAny _ _ (assign (.Tuple ..) _ _) _ _ _); refine assign2 ‹_› ‹_› ‹_› ‹_› rfl rfl rfl ?_; intro _ _ _ _) | ((with_reducible show wpAny _ _ (unpackItems (.ref _) _ _) _ _ _); refine unpackItemsN_ ‹_› ‹_› (News.isTup ‹_› (.head _)) ‹_› rfl ?_; intro _ _ _) | ((with_reducible show wpAny _ _ (binaryOp _ (.int _ _) (.int _ _)) _ _ _); first | with_reducible (refine orN ‹_› ?_) | with_reducible (first | refine andN1 ?_ | refine andN ?_) | with_reducible (first | refine sub1N ?_ | (refine subN ‹_› ?_) | refine PyProof.Rows.sub_int ?_) | with_reducible (first | (refine shl1N (by omega) ?_) | (refine shlN ‹_› ?_)) | with_reducible (first | refine rshN1 ?_ | refine rshN ?_)) | ((with_reducible show wpAny _ _ (inplaceOp _ (.int _ _) (.int _ _)) _ _ _); first | with_reducible (refine iadd1N ?_) | with_reducible (refine ishlN1 ‹_› ?_) | with_reducible (refine irshN1 ?_)) | walk1)
  rename Fr _ _ _ _ => F'
  rename News _ _ _ _ => N'
  rename (((n % 2 : Nat) : Int) ≠ 0) => hpad
  have hpk : ∃ k, n + 1 = 2 * k := ⟨(n + 1) / 2, by omega⟩
  obtain ⟨k, hk⟩ := hpk
  have e1 : a * 2 / (b * 2) = a / b := Nat.mul_div_mul_right _ _ (by decide)
  have e2 : n % 2 = 1 → a * 2 % (b * 2) / 2 = a % b := fun _ => by rw [Nat.mul_mod_mul_right, Nat.mul_div_cancel _ (by decide)]
  have hpow : 2 ^ (n + 1) = 2 ^ n * 2 := Nat.pow_succ ..
  have hv := halves (a := a * 2) (b := b * 2) (k := k) (by omega) (by rw [← hk]; omega) (by rw [← hk]; omega) (by rw [← hk, hpow, ← Nat.mul_assoc, Nat.mul_right_comm _ 2 b]; omega) (by omega)
  rw [hk] at F'
  have hk2 : k ≤ 2600 := by omega
  clear hpow hk
  have e3 : n % 2 = 0 → a * 2 % (b * 2) = a % b := fun e => by omega
  generalize a * 2 = a' at F' e1 e2 e3 hv
  generalize b * 2 = b' at F' e1 e2 e3 hv
  exact ⟨_, _, a', b', k, _, _, _, _, _, rfl, F', N', rfl, rfl, rfl, rfl, hv, e1, e2, e3, hk2⟩
  rename Fr _ _ _ _ => F'
  rename News _ _ _ _ => N'
  rename (((n % 2 : Nat) : Int) = 0) => hpad
  have hpk : ∃ k, n = 2 * k := ⟨n / 2, by omega⟩
  obtain ⟨k, hk⟩ := hpk
  obtain ⟨a', hae⟩ : ∃ a', a' = a := ⟨_, rfl⟩
  obtain ⟨b', hbe⟩ : ∃ b', b' = b := ⟨_, rfl⟩
  have e1 : a' / b' = a / b := by rw [hae, hbe]
  have e3 : n % 2 = 0 → a' % b' = a % b := fun _ => by rw [hae, hbe]
  have e2 : n % 2 = 1 → a' % b' / 2 = a % b := fun e => by omega
  have hv := halves (a := a') (b := b') (k := k) (by omega) (by rw [← hk, hbe]; exact hb) (by rw [← hk, hbe]; exact hb') (by rw [← hk, hae, hbe]; exact ha) (by omega)
  have hk2 : k ≤ 2600 := by omega
  exact ⟨_, _, a', b', k, _, _, _, _, _, rfl, F', N', by rw [hae]; rfl, by rw [hbe]; rfl, by rw [← hk]; rfl, rfl, hv, e1, e2, e3, hk2⟩
theorem all (v : V) : P v := byEps (v0 := v0) (by unfold v0; rfl) main v
end kdiv2_big
theorem div2_big {w : World} {A : Around} {s : Shared} {p : Program} {loose : List Str} {mean : ExcName → Option Value} {mg : Str → Option Value} {mb : Str → Option Value} {a b n : Nat} {ta tb tn : Tok} (hb0 : 0 < b) (hb : b < 2 ^ n) (hb' : 2 ^ n ≤ 2 * b) (ha : a < 2 ^ n * b) (hn : n ≤ 5000) (hbig : ¬ bitsN a ≤ n + 4000) (X : (hd.heap_39 w.params).In s.heap) (T : Top p loose mean mg mb s.heap) (hroom : A.depth + 25 < recursionLimit) (hh : A.handled = none) :
    codeAny (model PySem.Challenge.rw_rs0108_01.row.prog w) A (.call (.ref 59) ⟨[.int a ta, .int b tb, .int n tn], []⟩) (Ret s (PairR ((a / b : Nat) : Int) ((a % b : Nat) : Int))) s := kdiv2_big.all (w, A, s, p, loose, mean, mg, mb, ta, tb, tn) a b n hb0 hb hb' ha hn hbig X T hroom hh
end
section
variable {w : World} {A : Around} {s : Shared} {p : Program} {loose : List Str} {mean : ExcName → Option Value} {mg mb : Str → Option Value}
theorem div2_spec {a b n : Nat} {ta tb tn : Tok} (hb0 : 0 < b) (hb : b < 2 ^ n) (hb' : 2 ^ n ≤ 2 * b) (ha : a < 2 ^ n * b) (hn : n ≤ 5000)
    (X : (hd.heap_39 w.params).In s.heap) (T : Top p loose mean mg mb s.heap) (hroom : A.depth + 25 < recursionLimit) (hh : A.handled = none) :
    codeAny (model PySem.Challenge.rw_rs0108_01.row.prog w) A (.call (.ref 59) ⟨[.int a ta, .int b tb, .int n tn], []⟩) (Ret s (PairR ((a / b : Nat) : Int) ((a % b : Nat) : Int))) s := by
  by_cases h : bitsN a ≤ n + 4000
  · exact div2_base hb0 (Nat.lt_of_lt_of_le hb (Nat.pow_le_pow_right (by decide) (by omega))) h X T (by omega) hh
  · exact div2_big hb0 hb hb' ha hn h X T hroom hh
end
end Mine
end
-- part DmpOk
section
open PySem PySem.W PySem.Calls PyProof.Rows
namespace Mine
/-- the sizes of the numbers that the law divides -/
theorem dmp_ok {W f e rd N x : Nat} (hW2 : 2 ≤ W) (hW : W ≤ 4401) (hf1 : 2 ^ W ≤ f) (hf2 : f < 2 ^ (W + 1)) (he : e < 2 ^ W) (hrd : rd < 2 ^ (2 * W + 9)) (hN0 : 7 ≤ N) (hN : N ≤ 9) (hx : x ≤ 64) :
    bitsN (x + N * rd) ≤ 2 ^ 20 ∧ bitsN f ≤ 2 ^ 20 ∧ 0 < N * f ∧ bitsN (N * f) ≤ 5000 ∧ (x + N * rd) * f + e < 2 ^ 20000 ∧ (bitsN ((x + N * rd) * f + e) + bitsN (N * f) - 1) / bitsN (N * f) ≤ 20 := by
  have p0 := Nat.two_pow_pos W
  have p1 : 2 ^ (2 * W + 13) = 2 ^ (2 * W + 9) * 16 := by rw [Nat.pow_add 2 (2 * W + 9) 4]
  have p1' : 64 ≤ 2 ^ (2 * W + 9) := Nat.le_trans (by decide : 64 ≤ 2 ^ 6) (Nat.pow_le_pow_right (by decide) (by omega))
  have a1 : N * rd ≤ 9 * rd := Nat.mul_le_mul_right _ hN
  have a2 : x + N * rd < 2 ^ (2 * W + 13) := by omega
  have b1 : bitsN (x + N * rd) ≤ 2 * W + 13 := bitsN_le.mpr a2
  have b2 : bitsN f ≤ W + 1 := bitsN_le.mpr hf2
  have c1 : N * f ≤ 9 * f := Nat.mul_le_mul_right _ hN
  have c2 : 2 ^ (W + 5) = 2 ^ (W + 1) * 16 := by rw [Nat.pow_add 2 (W + 1) 4]
  have b3 : bitsN (N * f) ≤ W + 5 := bitsN_le.mpr (by omega)
  have c3 : 1 * f ≤ N * f := Nat.mul_le_mul_right _ (by omega)
  have b4 : W + 1 ≤ bitsN (N * f) := by
    rcases Nat.lt_or_ge W (bitsN (N * f)) with q | q
    · exact q
    · have := bitsN_le.mp q
      omega
  have d1 : (x + N * rd) * f ≤ 2 ^ (2 * W + 13) * f := Nat.mul_le_mul_right _ (Nat.le_of_lt a2)
  have d2 : 2 ^ (2 * W + 13) * f ≤ 2 ^ (2 * W + 13) * 2 ^ (W + 1) := Nat.mul_le_mul_left _ (Nat.le_of_lt hf2)
  have d3 : 2 ^ (2 * W + 13) * 2 ^ (W + 1) = 2 ^ (3 * W + 14) := by rw [← Nat.pow_add]; congr 1; omega
  have d4 : 2 ^ W ≤ 2 ^ (3 * W + 14) := Nat.pow_le_pow_right (by decide) (by omega)
  have d5 : 2 ^ (3 * W + 15) = 2 ^ (3 * W + 14) * 2 := Nat.pow_succ ..
  have d6 : (x + N * rd) * f + e < 2 ^ (3 * W + 15) := by omega
  have b5 : bitsN ((x + N * rd) * f + e) ≤ 3 * W + 15 := bitsN_le.mpr d6
  refine ⟨by omega, by omega, by omega, by omega, Nat.lt_of_lt_of_le d6 (Nat.pow_le_pow_right (by decide) (by omega)), ?_⟩
  generalize bitsN ((x + N * rd) * f + e) = A at b5
  generalize bitsN (N * f) = B at b3 b4
  clear d6 d5 d4 d3 d2 d1 c3 c2 c1 a2 a1 p1 p1' p0 hf1 hf2 he hrd
  have : A + B - 1 < 21 * B := by omega
  have := (Nat.div_lt_iff_lt_mul (by omega : 0 < B)).mpr this
  omega
end Mine
end
end
-- part Loop
section
open PySem PySem.W PySem.Calls PyProof.Rows
namespace Mine

/-- enter a def that has cells, over a base that may hide some of the heap -/
theorem enterC {prog : Program} {w : World} {A : Around} {s : Shared} {K : Frag} {p : Program} {loose : List Str} {mean : ExcName → Option Value} {mg mb : Str → Option Value} {g : Heap}
    {R : Result → Shared → Prop} {name qual : Str} {params : Arguments} {body : List Stmt} {scope : Scope} {dV kV doc pm cdv ct oc : Value} {an od : Option Addr} {osl : Array (Option Value)} {f : Addr} {args : Args} {binds : List (Str × Value)}
    (hg : ∀ b o, g.get? b = some o → s.heap.get? b = some o) (hgs : g.objs.size ≤ s.heap.objs.size) (X : K.In g) (T : Top p loose mean mg mb g)
    (ho : K.lookup f = some ⟨oc, od, .func (fnOf name qual params body scope dV kV doc pm an cdv ct), osl⟩) (hcd : codeIn K cdv qual = true) (hroom : A.depth < recursionLimit)
    (hbind : bindArgs (fnOf name qual params body scope dV kV doc pm an cdv ct) args = pure binds) (hkind : (binds.all fun y => scope.names.lookup y.1 == some .local || scope.names.lookup y.1 == some .cell) = true)
    (hnd : ((cellsFrom 0 scope.names []).map (·.1)).Nodup)
    (h : ∀ h₁ tk cells, Fr g s.heap.objs.size h₁ (bindL (envOfC qual scope s.heap.objs.size f cdv).kindOf binds fun _ => none) → (∀ b o, s.heap.get? b = some o → h₁.get? b = some o) → News g s.heap.objs.size h₁ cells →
      CellsAre (bindC (envOfC qual scope s.heap.objs.size f cdv).kindOf binds fun _ => none) (cellsFrom (s.heap.objs.size + 1) scope.names []) cells →
      wpAny (model prog w) (A.deeper (envOfC qual scope s.heap.objs.size f cdv)) (execs body (envOfC qual scope s.heap.objs.size f cdv))
        (fun fl s' => R (.ok (.ret (match fl with | .ret v => v | _ => .none))) s') (fun _ _ => False)
        { s with heap := h₁, toks := tk })
    (hco : scope.isCoroutine = false) (hgen : scope.isGenerator = false) (hk : scope.kind = .function) :
    codeAny (model prog w) A (.call (.ref f) args) R s := by
  have X' := X.keeps hg
  refine codeAny_call_function hroom (X' _ _ ho) rfl hco hgen rfl (codeRec_of X' hcd) ((BindsTo.of_eq hbind) _ _ _ _ ?_)
  refine wpAny_newFunctionEnv_cells hk (kindsX hkind _) fun env' he s' x => ?_
  subst he
  refine ⟨(T.nolimit.keeps hg).keeps x.toInCall.keep, codeAny_func ?_⟩
  obtain ⟨h₁, tk, rfl, _⟩ := x.done
  have hk₁ := x.toInCall.keep
  obtain ⟨cells, NC, Y⟩ := Cl.news (h₀ := s.heap) (Nat.le_refl _) fun n c hm => ⟨x.cell n c (lookup_of_mem_nodup (cellsFrom_names scope.names 0 (s.heap.objs.size + 1) [] [] rfl ▸ hnd) hm), x.above n c hm⟩
  refine wpAny_mono (h h₁ tk cells ⟨x.toInCall.ns, fun b o e => hk₁ b o (hg b o e), hgs⟩ hk₁ (fun p hp => ⟨(NC p hp).1, (NC p hp).2.1, ?_⟩) Y) (fun fl s' hl => hl) fun _ _ y => y.elim
  cases q : g.get? p.1 with
  | none => rfl
  | some o => have := hg _ _ q; rw [(NC p hp).2.2] at this; cases this

/-- the same without cells -/
theorem enterB {prog : Program} {w : World} {A : Around} {s : Shared} {K : Frag} {p : Program} {loose : List Str} {mean : ExcName → Option Value} {mg mb : Str → Option Value} {g : Heap}
    {R : Result → Shared → Prop} {name qual : Str} {params : Arguments} {body : List Stmt} {scope : Scope} {dV kV doc pm cdv ct oc : Value} {an od : Option Addr} {osl : Array (Option Value)} {f : Addr} {args : Args} {binds : List (Str × Value)}
    (hg : ∀ b o, g.get? b = some o → s.heap.get? b = some o) (hgs : g.objs.size ≤ s.heap.objs.size) (X : K.In g) (T : Top p loose mean mg mb g)
    (ho : K.lookup f = some ⟨oc, od, .func (fnOf name qual params body scope dV kV doc pm an cdv ct), osl⟩) (hcd : codeIn K cdv qual = true) (hroom : A.depth < recursionLimit)
    (hbind : bindArgs (fnOf name qual params body scope dV kV doc pm an cdv ct) args = pure binds) (hloc : (binds.all fun x => decide (scope.names.lookup x.1 = some .local)) = true)
    (h : ∀ h₁, Fr g s.heap.objs.size h₁ (fun y => binds.reverse.lookup y) → (∀ b o, s.heap.get? b = some o → h₁.get? b = some o) → News g s.heap.objs.size h₁ [] →
      wpAny (model prog w) (A.deeper (envOf qual scope s.heap.objs.size f cdv)) (execs body (envOf qual scope s.heap.objs.size f cdv))
        (fun fl s' => R (.ok (.ret (match fl with | .ret v => v | _ => .none))) s') (fun _ _ => False)
        { s with heap := h₁, toks := s.toks + binds.length })
    (hcell : ∀ x ∈ scope.names, x.2 ≠ .cell) (hco : scope.isCoroutine = false) (hgen : scope.isGenerator = false) (hk : scope.kind = .function) :
    codeAny (model prog w) A (.call (.ref f) args) R s := by
  have X' := X.keeps hg
  refine codeAny_call_def (fd := fnOf name qual params body scope dV kV doc pm an cdv ct) (body := body) (binds := binds) hroom (X' _ _ ho) rfl (T.nolimit.keeps hg) (codeRec_of X' hcd) rfl (BindsTo.of_eq hbind) hcell (locs hloc) (fun h₁ hns hk₁ => ?_) hco hgen hk
  exact wpAny_mono (h h₁ ⟨hns, fun b o e => hk₁ b o (hg b o e), hgs⟩ hk₁ News.nil) (fun _ _ y => y) fun _ _ y => y.elim

noncomputable def AfterW (h₀ : Heap) (L : Addr) (wr : List Addr) (own : List (Addr × Obj)) (Gs : Array GenState → Prop) (s₁ : Shared) (Jn : (Str → Option Value) → List (Addr × Obj) → Prop) (R : Result → Shared → Prop) (f : Flow) (s' : Shared) : Prop := match f with
  | .next | .cont => ∃ h' tk gs m₂ news₂, s' = { s₁ with heap := h', toks := tk, gens := gs } ∧ Gs gs ∧ Fr h₀ L h' m₂ ∧ News h₀ L h' (news₂ ++ own) ∧ (∀ q ∈ news₂, q.1 ∉ wr) ∧ Jn m₂ news₂
  | .brk => R (.ok .next) s'
  | .ret v => R (.ok (.ret v)) s'

theorem afterW {h₀ : Heap} {L : Addr} {wr : List Addr} {own : List (Addr × Obj)} {Gs : Array GenState → Prop} {s₁ : Shared} {Jn : (Str → Option Value) → List (Addr × Obj) → Prop} {R : Result → Shared → Prop} {h' : Heap} {tk : Nat} {gs : Array GenState} {m₂ : Str → Option Value} {news₂ : List (Addr × Obj)}
    (F : Fr h₀ L h' m₂) (N : News h₀ L h' (news₂ ++ own)) (hg : Gs gs) (hn : ∀ q ∈ news₂, q.1 ∉ wr) (hJ : Jn m₂ news₂) : AfterW h₀ L wr own Gs s₁ Jn R .next { s₁ with heap := h', toks := tk, gens := gs } :=
  ⟨h', tk, gs, m₂, news₂, rfl, hg, F, N, hn, hJ⟩

section
variable {prog : Program} {w : World} {A : Around} {s : Shared}
end
section
namespace kforWS
noncomputable abbrev VK := (Program) × (World) × (Around) × (Shared) × (Result → Shared → Prop) × (List Stmt) × (Env) × (Str) × (Pos) × (Heap) × (List Addr) × (List Addr) × (Nat) × (Nat → Value → Prop) × (Nat → Heap → Prop) × (Str → Option Value) × (List (Addr × Obj)) × (Array GenState → Prop) × (Nat → (Str → Option Value) → List (Addr × Obj) → Prop)
noncomputable def PK (v : VK) : Prop :=
  (fun (prog : Program) (w : World) (A : Around) (s : Shared) (R : Result → Shared → Prop) (bd : List Stmt) (env : Env) (x : Str) (p1 : Pos) (h₀ : Heap) (fp : List Addr) (wr : List Addr) (n : Nat) (P : Nat → Value → Prop) (St : Nat → Heap → Prop) (m : Str → Option Value) (news : List (Addr × Obj)) (Gs : Array GenState → Prop) (J : Nat → (Str → Option Value) → List (Addr × Obj) → Prop) =>
  ∀ (L I : Addr) (W : Walks prog w A I fp wr n P St) (hLe : env.locals = L) (hx : env.kindOf x = some .local) (hp : (env.scope.kind == .class || (env.scope.kind == .module && env.locals != env.globals)) = false) (hLf : L ∉ fp) (hwr : ∀ b ∈ wr, h₀.get? b = none) (hst : St 0 s.heap) (F : Fr h₀ L s.heap m) (N : News h₀ L s.heap news) (hnw : ∀ q ∈ news, q.1 ∉ wr) (hG : Gs s.gens) (h0 : J 0 m news) (step : ∀ i v m₁ news₁ h tk gs own, St (i + 1) h → own = PyProof.Rows.ownOf h₀ fp h → Gs gs → i < n → P i v → J i m₁ news₁ → (∀ q ∈ news₁, q.1 ∉ wr) → (∀ q ∈ own, q.1 ∈ fp) →
      Fr h₀ L h (fun y => if y = x then some v else m₁ y) → News h₀ L h (news₁ ++ own) →
      wpAny (model prog w) A (execs bd env) (AfterW h₀ L wr own Gs { s with heap := h, toks := tk, gens := gs } (J (i + 1)) R) (fun _ _ => False) { s with heap := h, toks := tk, gens := gs }) (hR : ∀ h tk gs m' news', Gs gs → Fr h₀ L h m' → News h₀ L h news' → (∀ q ∈ news', q.1 ∉ wr) → J n m' news' → R (.ok .next) { s with heap := h, toks := tk, gens := gs }), codeAny (model prog w) A (.forLoop (.Name x p1) (.ref I) bd [] env) R s)
    v.1 v.2.1 v.2.2.1 v.2.2.2.1 v.2.2.2.2.1 v.2.2.2.2.2.1 v.2.2.2.2.2.2.1 v.2.2.2.2.2.2.2.1 v.2.2.2.2.2.2.2.2.1 v.2.2.2.2.2.2.2.2.2.1 v.2.2.2.2.2.2.2.2.2.2.1 v.2.2.2.2.2.2.2.2.2.2.2.1 v.2.2.2.2.2.2.2.2.2.2.2.2.1 v.2.2.2.2.2.2.2.2.2.2.2.2.2.1 v.2.2.2.2.2.2.2.2.2.2.2.2.2.2.1 v.2.2.2.2.2.2.2.2.2.2.2.2.2.2.2.1 v.2.2.2.2.2.2.2.2.2.2.2.2.2.2.2.2.1 v.2.2.2.2.2.2.2.2.2.2.2.2.2.2.2.2.2.1 v.2.2.2.2.2.2.2.2.2.2.2.2.2.2.2.2.2.2
@[irreducible] noncomputable def vK : VK := @Classical.epsilon VK ⟨(PySem.Challenge.rw_rs0108_01.row.prog, aW, callerA, {}, fun _ _ => True, [], default, ⟨#[]⟩, default, {}, [], [], 0, fun _ _ => True, fun _ _ => True, fun _ => none, [], fun _ => True, fun _ _ _ => True)⟩ fun v => ¬ PK v
noncomputable def prog : Program := vK.1
noncomputable def w : World := vK.2.1
noncomputable def A : Around := vK.2.2.1
noncomputable def s : Shared := vK.2.2.2.1
noncomputable def R : Result → Shared → Prop := vK.2.2.2.2.1
noncomputable def bd : List Stmt := vK.2.2.2.2.2.1
noncomputable def env : Env := vK.2.2.2.2.2.2.1
noncomputable def x : Str := vK.2.2.2.2.2.2.2.1
noncomputable def p1 : Pos := vK.2.2.2.2.2.2.2.2.1
noncomputable def h₀ : Heap := vK.2.2.2.2.2.2.2.2.2.1
noncomputable def fp : List Addr := vK.2.2.2.2.2.2.2.2.2.2.1
noncomputable def wr : List Addr := vK.2.2.2.2.2.2.2.2.2.2.2.1
noncomputable def n : Nat := vK.2.2.2.2.2.2.2.2.2.2.2.2.1
noncomputable def P : Nat → Value → Prop := vK.2.2.2.2.2.2.2.2.2.2.2.2.2.1
noncomputable def St : Nat → Heap → Prop := vK.2.2.2.2.2.2.2.2.2.2.2.2.2.2.1
noncomputable def m : Str → Option Value := vK.2.2.2.2.2.2.2.2.2.2.2.2.2.2.2.1
noncomputable def news : List (Addr × Obj) := vK.2.2.2.2.2.2.2.2.2.2.2.2.2.2.2.2.1
noncomputable def Gs : Array GenState → Prop := vK.2.2.2.2.2.2.2.2.2.2.2.2.2.2.2.2.2.1
noncomputable def J : Nat → (Str → Option Value) → List (Addr × Obj) → Prop := vK.2.2.2.2.2.2.2.2.2.2.2.2.2.2.2.2.2.2
theorem main (L I : Addr) (W : Walks prog w A I fp wr n P St) (hLe : env.locals = L) (hx : env.kindOf x = some .local) (hp : (env.scope.kind == .class || (env.scope.kind == .module && env.locals != env.globals)) = false) (hLf : L ∉ fp) (hwr : ∀ b ∈ wr, h₀.get? b = none) (hst : St 0 s.heap) (F : Fr h₀ L s.heap m) (N : News h₀ L s.heap news) (hnw : ∀ q ∈ news, q.1 ∉ wr) (hG : Gs s.gens) (h0 : J 0 m news) (step : ∀ i v m₁ news₁ h tk gs own, St (i + 1) h → own = PyProof.Rows.ownOf h₀ fp h → Gs gs → i < n → P i v → J i m₁ news₁ → (∀ q ∈ news₁, q.1 ∉ wr) → (∀ q ∈ own, q.1 ∈ fp) →
      Fr h₀ L h (fun y => if y = x then some v else m₁ y) → News h₀ L h (news₁ ++ own) →
      wpAny (model prog w) A (execs bd env) (AfterW h₀ L wr own Gs { s with heap := h, toks := tk, gens := gs } (J (i + 1)) R) (fun _ _ => False) { s with heap := h, toks := tk, gens := gs }) (hR : ∀ h tk gs m' news', Gs gs → Fr h₀ L h m' → News h₀ L h news' → (∀ q ∈ news', q.1 ∉ wr) → J n m' news' → R (.ok .next) { s with heap := h, toks := tk, gens := gs }) :
    codeAny (model prog w) A (.forLoop (.Name x p1) (.ref I) bd [] env) R s := by
  subst hLe
  have hLw : env.locals ∉ wr := fun h => hLf (W.sub _ h)
  have old : ∀ b o, h₀.get? b = some o → b ∉ wr := fun b o e hb => by rw [hwr b hb] at e; cases e
  refine codeAny_forLoop_any (fun k s' => ∃ i h tk gs m₁ news₁, k = n + 1 - i ∧ i ≤ n ∧ s' = { s with heap := h, toks := tk, gens := gs } ∧ Gs gs ∧ St i h ∧ Fr h₀ env.locals h m₁ ∧ News h₀ env.locals h news₁ ∧ (∀ q ∈ news₁, q.1 ∉ wr) ∧ J i m₁ news₁)
    ?_ (n + 1) ⟨0, s.heap, s.toks, s.gens, m, news, rfl, Nat.zero_le _, rfl, hG, hst, F, N, hnw, h0⟩
  rintro k s' ⟨i, h, tk, gs, m₁, news₁, rfl, hi, rfl, hgs, hst', F', N', hnw', hJ⟩
  have next : ∀ h₁ : Heap, (∀ b o, b ∉ wr → h.get? b = some o → h₁.get? b = some o) → Fr h₀ env.locals h₁ m₁ ∧ News h₀ env.locals h₁ news₁ := fun h₁ hk₁ =>
    ⟨⟨F'.ns.at' fun o e => hk₁ _ o hLw e, fun b o e => hk₁ b o (old b o e) (F'.keep b o e), F'.above⟩, fun p hp => ⟨hk₁ _ _ (hnw' p hp) (N' p hp).1, (N' p hp).2⟩⟩
  by_cases hlt : i < n
  · refine W.item i _ _ _ hlt hst' fun v h₁ tk₁ hP hst₁ hk₁ => ?_
    obtain ⟨F₁, N₁⟩ := next h₁ hk₁
    refine wpAny_pure ?_
    refine wpAny_assign_Name (wpAny_storeName_local hx F₁.ns (fun h₂ hn₂ hs₂ => ?_) hp)
    have F₂ := F₁.set hn₂ hs₂
    have N₂ : News h₀ env.locals h₂ news₁ := N₁.set hs₂
    have hst₂ : St (i + 1) h₂ := W.frame _ _ _ hst₁ fun b hb o e => hs₂.extBut b o (fun q => hLf (q ▸ hb)) e
    have Nown : News h₀ env.locals h₂ (PyProof.Rows.ownOf h₀ fp h₂) := news_ownOf hLf
    have N₃ : News h₀ env.locals h₂ (news₁ ++ PyProof.Rows.ownOf h₀ fp h₂) := N₂.append Nown
    refine wpAny_mono (step i v m₁ news₁ h₂ _ gs _ hst₂ rfl hgs hlt hP hJ hnw' ownOf_sub F₂ N₃) (fun f s₃ h₃ => ?_) fun _ _ e => e.elim
    have again : ∀ {s₃ : Shared}, (∃ h' tk gs' m₂ news₂, s₃ = { s with heap := h', toks := tk, gens := gs' } ∧ Gs gs' ∧ Fr h₀ env.locals h' m₂ ∧ News h₀ env.locals h' (news₂ ++ PyProof.Rows.ownOf h₀ fp h₂) ∧ (∀ q ∈ news₂, q.1 ∉ wr) ∧ J (i + 1) m₂ news₂) →
        ∃ k', k' < n + 1 - i ∧ ∃ i h tk gs m₁ news₁, k' = n + 1 - i ∧ i ≤ n ∧ s₃ = { s with heap := h, toks := tk, gens := gs } ∧ Gs gs ∧ St i h ∧ Fr h₀ env.locals h m₁ ∧ News h₀ env.locals h news₁ ∧ (∀ q ∈ news₁, q.1 ∉ wr) ∧ J i m₁ news₁ := by
      rintro s₃ ⟨h', tk', gs', m₂, news₂, rfl, hg', F₃, N₃', hn₃, hJ₃⟩
      refine ⟨n + 1 - (i + 1), by lia, i + 1, h', tk', gs', m₂, news₂, rfl, hlt, rfl, hg', ?_, F₃, fun q hq => N₃' q (List.mem_append_left _ hq), hn₃, hJ₃⟩
      refine W.frame _ _ _ hst₂ fun b hb o e => ?_
      cases hn : h₀.get? b with
      | some o₀ =>
        have : o₀ = o := by have q := F₂.keep b o₀ hn; rw [e] at q; exact (Option.some.inj q).symm
        exact this ▸ F₃.keep b o₀ hn
      | none => exact (N₃' _ (List.mem_append_right _ (mem_ownOf hb hn e))).1
    cases f with
    | next => exact again h₃
    | cont => exact again h₃
    | brk => exact h₃
    | ret v => exact h₃
  · have hi' : i = n := by lia
    subst hi'
    refine W.done _ _ _ hst' fun h₁ tk₁ hk₁ => ?_
    obtain ⟨F₁, N₁⟩ := next h₁ hk₁
    exact wpAny_execs_nil (hR h₁ tk₁ gs m₁ news₁ hgs F₁ N₁ hnw' hJ)
theorem all (v : VK) : PK v := byEps (v0 := vK) (by unfold vK; rfl) main v
end kforWS
theorem forWS {prog : Program} {w : World} {A : Around} {s : Shared} {R : Result → Shared → Prop} {bd : List Stmt} {env : Env} {x : Str} {p1 : Pos} {h₀ : Heap} {L I : Addr} {fp wr : List Addr} {n : Nat} {P : Nat → Value → Prop} {St : Nat → Heap → Prop} {m : Str → Option Value} {news : List (Addr × Obj)} (Gs : Array GenState → Prop) (W : Walks prog w A I fp wr n P St) (hLe : env.locals = L) (hx : env.kindOf x = some .local) (hp : (env.scope.kind == .class || (env.scope.kind == .module && env.locals != env.globals)) = false) (hLf : L ∉ fp) (hwr : ∀ b ∈ wr, h₀.get? b = none) (hst : St 0 s.heap) (F : Fr h₀ L s.heap m) (N : News h₀ L s.heap news) (hnw : ∀ q ∈ news, q.1 ∉ wr) (hG : Gs s.gens) (J : Nat → (Str → Option Value) → List (Addr × Obj) → Prop) (h0 : J 0 m news) (step : ∀ i v m₁ news₁ h tk gs own, St (i + 1) h → own = PyProof.Rows.ownOf h₀ fp h → Gs gs → i < n → P i v → J i m₁ news₁ → (∀ q ∈ news₁, q.1 ∉ wr) → (∀ q ∈ own, q.1 ∈ fp) →
      Fr h₀ L h (fun y => if y = x then some v else m₁ y) → News h₀ L h (news₁ ++ own) →
      wpAny (model prog w) A (execs bd env) (AfterW h₀ L wr own Gs { s with heap := h, toks := tk, gens := gs } (J (i + 1)) R) (fun _ _ => False) { s with heap := h, toks := tk, gens := gs }) (hR : ∀ h tk gs m' news', Gs gs → Fr h₀ L h m' → News h₀ L h news' → (∀ q ∈ news', q.1 ∉ wr) → J n m' news' → R (.ok .next) { s with heap := h, toks := tk, gens := gs }) :
    codeAny (model prog w) A (.forLoop (.Name x p1) (.ref I) bd [] env) R s := kforWS.all (prog, w, A, s, R, bd, env, x, p1, h₀, fp, wr, n, P, St, m, news, Gs, J) L I W hLe hx hp hLf hwr hst F N hnw hG h0 step hR
end
section
variable {prog : Program} {w : World} {A : Around} {s : Shared}
theorem forW {R : Result → Shared → Prop} {bd : List Stmt} {env : Env} {x : Str} {p1 : Pos} {h₀ : Heap} {L I : Addr} {fp wr : List Addr} {n : Nat} {P : Nat → Value → Prop} {St : Nat → Heap → Prop} {m : Str → Option Value} {news : List (Addr × Obj)} (Gs : Array GenState → Prop)
    (W : Walks prog w A I fp wr n P St) (hLe : env.locals = L) (hx : env.kindOf x = some .local) (hp : (env.scope.kind == .class || (env.scope.kind == .module && env.locals != env.globals)) = false)
    (hLf : L ∉ fp) (hwr : ∀ b ∈ wr, h₀.get? b = none) (hst : St 0 s.heap) (F : Fr h₀ L s.heap m) (N : News h₀ L s.heap news) (hnw : ∀ q ∈ news, q.1 ∉ wr) (hG : Gs s.gens)
    (J : Nat → (Str → Option Value) → List (Addr × Obj) → Prop) (h0 : J 0 m news)
    (step : ∀ i v m₁ news₁ h tk gs own, Gs gs → i < n → P i v → J i m₁ news₁ → (∀ q ∈ news₁, q.1 ∉ wr) → (∀ q ∈ own, q.1 ∈ fp) →
      Fr h₀ L h (fun y => if y = x then some v else m₁ y) → News h₀ L h (news₁ ++ own) →
      wpAny (model prog w) A (execs bd env) (AfterW h₀ L wr own Gs { s with heap := h, toks := tk, gens := gs } (J (i + 1)) R) (fun _ _ => False) { s with heap := h, toks := tk, gens := gs })
    (hR : ∀ h tk gs m' news', Gs gs → Fr h₀ L h m' → News h₀ L h news' → (∀ q ∈ news', q.1 ∉ wr) → J n m' news' → R (.ok .next) { s with heap := h, toks := tk, gens := gs }) :
    codeAny (model prog w) A (.forLoop (.Name x p1) (.ref I) bd [] env) R s :=
  forWS Gs W hLe hx hp hLf hwr hst F N hnw hG J h0 (fun i v m₁ news₁ h tk gs own _ _ => step i v m₁ news₁ h tk gs own) hR
end
end Mine
end
-- part Nest
section
open PySem PySem.W PySem.Calls PyProof.Rows
namespace Mine
/-- a table of codes: still empty, or it holds the one nested code -/
noncomputable def TabS (P : Addr) (pos : Int × Int) (qual : Str) (h : Heap) : Prop :=
  ∃ ps, h.get? P = some (tabObj ps) ∧ (ps = #[] ∨ ∃ c, ps = #[rawInt pos.1, rawInt pos.2, .ref c] ∧ h.CodeRec (.ref c) qual ∧ c ≠ 68 ∧ c ≠ 75)
theorem TabS.keep {P : Addr} {pos : Int × Int} {qual : Str} {h h' : Heap} (x : TabS P pos qual h) (hP : ∀ o, h.get? P = some o → h'.get? P = some o) (k : ∀ b o, b ≠ 68 → b ≠ 75 → h.get? b = some o → h'.get? b = some o) : TabS P pos qual h' := by
  obtain ⟨ps, e, r⟩ := x
  refine ⟨ps, hP _ e, r.imp id ?_⟩
  rintro ⟨c, rfl, hc, h1, h2⟩
  exact ⟨c, rfl, Heap.CodeRec.at hc fun o => k c o h1 h2, h1, h2⟩
theorem hide_keep {g h : Heap} {as : List Addr} (k : ∀ b o, g.get? b = some o → h.get? b = some o) (hn : ∀ a ∈ as, g.get? a = none) : ∀ b o, g.get? b = some o → (hideAll h as).get? b = some o :=
  fun b o e => hideAll_get _ (k b o e) fun q => by rw [hn b q] at e; cases e

/-- enter a def that was made on the way, by its own things in the ledger -/
theorem enterN {prog : Program} {w : World} {A : Around} {s : Shared} {N : List (Addr × Obj)}
    {R : Result → Shared → Prop} {name qual : Str} {params : Arguments} {body : List Stmt} {scope : Scope} {clos : List (Str × Addr)} {doc pm : Value} {c' : Addr} {ctv : Value} {f : Addr} {args : Args} {binds : List (Str × Value)}
    (_ : s.heap.get? f = some (fnMade name qual params body scope clos doc pm c' ctv)) (hN : ∀ q ∈ N, s.heap.get? q.1 = some q.2) (hlim : s.heap.NoLimit)
    (ho : (f, fnMade name qual params body scope clos doc pm c' ctv) ∈ N) (hcd : s.heap.CodeRec (.ref c') qual) (hroom : A.depth < recursionLimit)
    (hbind : bindArgs (fnX name qual params body scope clos .none .none doc pm none (.ref c') ctv) args = pure binds) (hloc : (binds.all fun x => decide (scope.names.lookup x.1 = some .local)) = true)
    (h : ∀ h₁, Fr (hideAll s.heap (N.map (·.1))) s.heap.objs.size h₁ (fun y => binds.reverse.lookup y) → (∀ b o, s.heap.get? b = some o → h₁.get? b = some o) → News (hideAll s.heap (N.map (·.1))) s.heap.objs.size h₁ N →
      wpAny (model prog w) (A.deeper (envX qual scope s.heap.objs.size f (.ref c') clos)) (execs body (envX qual scope s.heap.objs.size f (.ref c') clos))
        (fun fl s' => R (.ok (.ret (match fl with | .ret v => v | _ => .none))) s') (fun _ _ => False)
        { s with heap := h₁, toks := s.toks + binds.length })
    (hcell : ∀ x ∈ scope.names, x.2 ≠ .cell) (hco : scope.isCoroutine = false) (hgen : scope.isGenerator = false) (hk : scope.kind = .function) :
    codeAny (model prog w) A (.call (.ref f) args) R s := by
  refine codeAny_call_def (fd := fnX name qual params body scope clos .none .none doc pm none (.ref c') ctv) (body := body) (binds := binds) hroom (hN _ ho) rfl hlim hcd rfl (BindsTo.of_eq hbind) hcell (locs hloc) (fun h₁ hns hk₁ => ?_) hco hgen hk
  refine wpAny_mono (h h₁ ⟨hns, fun b o e => hk₁ b o (of_hideAll _ e), Nat.le_of_eq (hideAll_size _ _)⟩ hk₁ fun q hq => ?_) (fun _ _ y => y) fun _ _ y => y.elim
  exact ⟨hk₁ _ _ (hN q hq), Nat.ne_of_lt (Heap.lt_size (hN q hq)), hideAll_none _ (List.mem_map_of_mem hq)⟩
end Mine
end
-- part I2i
section
open PySem PySem.W PySem.Calls PyProof.Rows
namespace Mine
noncomputable def dig (n x i : Nat) : Int := ((x / 2 ^ (n * i) % 2 ^ n : Nat) : Int)
noncomputable def fillD (n : Nat) (ds : List Int) (L k x : Nat) : List Int := (List.range ds.length).map fun i => if L ≤ i ∧ i < L + k then dig n x (i - L) else ds.getD i 0
theorem fillD_len {n : Nat} {ds : List Int} {L k x : Nat} : (fillD n ds L k x).length = ds.length := by simp [fillD]
theorem fillD_get {n : Nat} {ds : List Int} {L k x i : Nat} (h : i < ds.length) : (fillD n ds L k x).getD i 0 = if L ≤ i ∧ i < L + k then dig n x (i - L) else ds.getD i 0 := by
  simp [fillD, List.getD_eq_getElem?_getD, List.getElem?_map, List.getElem?_range h]
theorem ext_getD {l l' : List Int} (h : l.length = l'.length) (e : ∀ i, i < l.length → l.getD i 0 = l'.getD i 0) : l = l' := by
  apply List.ext_getElem h
  intro i h1 h2
  have := e i h1
  rw [List.getD_eq_getElem?_getD, List.getD_eq_getElem?_getD, List.getElem?_eq_getElem h1, List.getElem?_eq_getElem h2] at this
  exact this
theorem fillD_one {n : Nat} {ds : List Int} {L x : Nat} (_h : L < ds.length) (hx : x < 2 ^ n) : ds.set L (x : Int) = fillD n ds L 1 x := by
  refine ext_getD (by rw [fillD_len, List.length_set]) fun i hi => ?_
  rw [List.length_set] at hi
  rw [fillD_get hi, List.getD_eq_getElem?_getD, List.getElem?_set]
  by_cases e : L = i
  · subst e
    rw [if_pos rfl, if_pos hi, if_pos ⟨Nat.le_refl _, by lia⟩, Nat.sub_self]
    simp [dig, Nat.mod_eq_of_lt hx]
  · rw [if_neg e, if_neg (by lia), List.getD_eq_getElem?_getD]
theorem dig_low {n x k i : Nat} (h : i < k) : dig n (x % 2 ^ (k * n)) i = dig n x i := by
  unfold dig
  congr 1
  rw [Nat.mul_comm k n]
  have e : 2 ^ (n * k) = 2 ^ (n * i) * 2 ^ (n * (k - i)) := by rw [← Nat.pow_add, ← Nat.mul_add]; congr 2; lia
  rw [e, Nat.mod_mul_right_div_self, Nat.mod_mod_of_dvd _ (Nat.pow_dvd_pow 2 (by have := Nat.mul_le_mul_left n (show 1 ≤ k - i by lia); lia))]
theorem dig_high {n x k i : Nat} : dig n (x / 2 ^ (k * n)) i = dig n x (k + i) := by
  unfold dig
  rw [Nat.div_div_eq_div_mul, ← Nat.pow_add, Nat.mul_add, Nat.mul_comm k n]
theorem fillD_two {n : Nat} {ds : List Int} {L k1 k2 x : Nat} : fillD n (fillD n ds L k1 (x % 2 ^ (k1 * n))) (L + k1) k2 (x / 2 ^ (k1 * n)) = fillD n ds L (k1 + k2) x := by
  refine ext_getD (by simp only [fillD_len]) fun i hi => ?_
  simp only [fillD_len] at hi
  rw [fillD_get (by rw [fillD_len]; exact hi), fillD_get hi, fillD_get hi]
  by_cases h1 : L + k1 ≤ i ∧ i < L + k1 + k2
  · rw [if_pos h1, if_pos (by lia), dig_high]
    congr 1; lia
  · rw [if_neg h1]
    by_cases h2 : L ≤ i ∧ i < L + k1
    · rw [if_pos h2, if_pos (by lia), dig_low (by lia)]
    · rw [if_neg h2, if_neg (by lia)]
section
variable {w : World}
noncomputable def RetI (D : Addr) (nn : Nat) (ds : List Int) (s : Shared) (r : Result) (s' : Shared) : Prop :=
  ∃ h' tk vs', r = .ok (.ret .none) ∧ s' = { s with heap := h', toks := tk } ∧ (∀ b o, b ≠ D → s.heap.get? b = some o → h'.get? b = some o) ∧ h'.get? D = some (listOf vs'.toArray nn) ∧ IntsAre vs' ds
/-- what the inner def of _int2digits does to the list -/
noncomputable def InnerI (w : World) (n : Nat) (D f : Addr) (G : Shared → List Value → Nat → Prop) (k : Nat) : Prop :=
  ∀ (A : Around) (s : Shared) (x L R : Nat) (tx tL tR : Tok) (vs : List Value) (ds : List Int) (nn : Nat), L < R → R ≤ L + k → R ≤ ds.length → ds.length ≤ 1000 → x < 2 ^ (n * (R - L)) → IntsAre vs ds → G s vs nn → A.depth + k + 5 < recursionLimit → A.handled = none →
    codeAny (model PySem.Challenge.rw_rs0108_01.row.prog w) A (.call (.ref f) ⟨[.int x tx, .int L tL, .int R tR], []⟩) (RetI D nn (fillD n ds L (R - L) x) s) s
theorem use_inner {A : Around} {s : Shared} {n : Nat} {D f : Addr} {GG : Shared → List Value → Nat → Prop} {k : Nat} {x L R : Nat} {tx tL tR : Tok} {vs : List Value} {ds : List Int} {nn : Nat} {h₀ : Heap} {L₀ : Addr} {m : Str → Option Value} {news : List (Addr × Obj)} {gg : Obj → List (Addr × Obj)} {E : Value → Shared → Prop} {Q : Value → Shared → Prop}
    (ih : InnerI w n D f GG k) (F : Fr h₀ L₀ s.heap m) (N : News h₀ L₀ s.heap news) (U : UpdF D (listOf vs.toArray nn) news gg) (h1 : L < R) (h2 : R ≤ L + k) (h3 : R ≤ ds.length) (h3' : ds.length ≤ 1000) (h4 : x < 2 ^ (n * (R - L))) (hi : IntsAre vs ds) (hG : GG s vs nn) (hroom : A.depth + k + 5 < recursionLimit) (hh : A.handled = none)
    (h : ∀ h' tk vs', Fr h₀ L₀ h' m → News h₀ L₀ h' (gg (listOf vs'.toArray nn)) → IntsAre vs' (fillD n ds L (R - L) x) → (∀ b o, b ≠ D → s.heap.get? b = some o → h'.get? b = some o) → Q .none { s with heap := h', toks := tk }) :
    wpAny (model PySem.Challenge.rw_rs0108_01.row.prog w) A (call (.ref f) [.int x tx, .int L tL, .int R tR]) Q E s := by
  refine wpAny_call (codeAny_mono (ih _ _ _ _ _ _ _ _ _ _ _ h1 h2 h3 h3' h4 hi hG hroom hh) ?_)
  rintro r s' ⟨h', tk, vs', rfl, rfl, hk, hD, hi'⟩
  obtain ⟨own, rest, rfl, hgr, u1, u2⟩ := U.split
  have hm := N (D, listOf vs.toArray nn) (List.mem_append_right _ (.head _))
  refine h h' tk vs' ⟨F.ns.at' fun o e => hk _ o (Ne.symm hm.2.1) e, fun b o e => hk b o (fun q => by rw [q, hm.2.2] at e; cases e) (F.keep b o e), F.above⟩ (fun q hq => ?_) hi' hk
  rw [hgr] at hq
  rcases List.mem_append.mp hq with hq | hq
  · have n := N q (List.mem_append_left _ hq)
    exact ⟨hk _ _ (u1 q hq) n.1, n.2⟩
  · rcases List.mem_cons.mp hq with rfl | hq
    · exact ⟨hD, hm.2⟩
    · have n := N q (List.mem_append_right _ (.tail _ hq))
      exact ⟨hk _ _ (u2 q hq) n.1, n.2⟩

noncomputable def IsFn (o : Obj) : Prop := ∃ oc od fd sl, o = ⟨oc, od, .func fd, sl⟩
theorem fnAt_of {h₀ h : Heap} {L q : Addr} {o : Obj} {news : List (Addr × Obj)} (N : News h₀ L h news) (hm : (q, o) ∈ news) (hf : IsFn o) : FnAt q h := by
  obtain ⟨oc, od, fd, sl, rfl⟩ := hf
  exact ⟨oc, od, fd, sl, (N _ hm).1⟩
structure InnerAt (G₀ : Heap) (D ca ci cn f c' : Addr) (oa oi on fo : Obj) (qual : Str) (s : Shared) (vs : List Value) (nn : Nat) : Prop where
  lim : ∀ b o, G₀.get? b = some o → s.heap.get? b = some o
  hD : s.heap.get? D = some (listOf vs.toArray nn)
  ha : s.heap.get? ca = some oa
  hi : s.heap.get? ci = some oi
  hn : s.heap.get? cn = some on
  hf : s.heap.get? f = some fo
  hc : s.heap.CodeRec (.ref c') qual
theorem codeRec_hide {h : Heap} {l : List Addr} {c : Addr} {q : Str} (x : h.CodeRec (.ref c) q) (hl : ∀ a ∈ l, ∀ o vs, h.get? a = some o → o.data ≠ .fields vs) : (hideAll h l).CodeRec (.ref c) q := by
  obtain ⟨c', o, vs, t, e, g, d, r⟩ := x
  cases e
  exact ⟨c, o, vs, t, rfl, hideAll_get _ g (fun hm => hl c hm o vs g d), d, r⟩
theorem InnerAt.of {G₀ g h : Heap} {D ca ci cn f c' : Addr} {oa oi on fo : Obj} {qual : Str} {s : Shared} {vs : List Value} {nn : Nat} {L : Addr} {m : Str → Option Value} (hs : s.heap = h) (F : Fr g L h m) (N : News g L h [(f, fo), (D, listOf vs.toArray nn), (ci, oi), (ca, oa), (cn, on)])
    (hl : ∀ b o, G₀.get? b = some o → g.get? b = some o) (hc : g.CodeRec (.ref c') qual) : InnerAt G₀ D ca ci cn f c' oa oi on fo qual s vs nn := by
  subst hs
  exact ⟨fun b o e => F.keep b o (hl b o e), (N _ (.tail _ (.head _))).1, (N _ (.tail _ (.tail _ (.tail _ (.head _))))).1, (N _ (.tail _ (.tail _ (.head _)))).1, (N _ (.tail _ (.tail _ (.tail _ (.tail _ (.head _)))))).1, (N _ (.head _)).1, hc.keeps F.keep⟩
theorem upd5 {D f ci ca cn : Addr} {o fo oi oa on : Obj} (h1 : cn < ca) (h2 : ca < ci) (h3 : ci < D) (h4 : D < f) : UpdF D o [(f, fo), (D, o), (ci, oi), (ca, oa), (cn, on)] (fun o' => [(f, fo), (D, o'), (ci, oi), (ca, oa), (cn, on)]) :=
  .tail (Nat.ne_of_gt h4) (.head fun q hq => by
    have h5 := Nat.lt_trans h2 h3
    have h6 := Nat.lt_trans h1 h5
    exact allC (p := fun q : Addr × Obj => q.1 ≠ D) (Nat.ne_of_lt h3) (allC (Nat.ne_of_lt h5) (allC (Nat.ne_of_lt h6) allN)) q hq)
theorem kept {h h' : Heap} {a : Addr} {x : Obj} (g : h.get? a = some x) (g' : h'.get? a = some x) (o : Obj) (e : h.get? a = some o) : h'.get? a = some o := g'.trans (g.symm.trans e)
theorem noFields {h : Heap} {a : Addr} {x : Obj} (g : h.get? a = some x) (hn : ∀ vs, x.data ≠ .fields vs) (o : Obj) (vs : Array Value) (e : h.get? a = some o) : o.data ≠ .fields vs := Option.some.inj (g.symm.trans e) ▸ hn vs
theorem retI_of {s : Shared} {D f ci ca cn L : Addr} {fo oi oa on : Obj} {nn tk : Nat} {vs : List Value} {ds : List Int} {h : Heap} {m : Str → Option Value} (gf : s.heap.get? f = some fo) (gi : s.heap.get? ci = some oi) (ga : s.heap.get? ca = some oa) (gn : s.heap.get? cn = some on)
    (F : Fr (hideAll s.heap [f, D, ci, ca, cn]) L h m) (N : News (hideAll s.heap [f, D, ci, ca, cn]) L h [(f, fo), (D, listOf vs.toArray nn), (ci, oi), (ca, oa), (cn, on)]) (hi : IntsAre vs ds) : RetI D nn ds s (.ok (.ret .none)) { s with heap := h, toks := tk } := by
  refine ⟨h, tk, vs, rfl, rfl, fun b o hb e => ?_, (N _ (.tail _ (.head _))).1, hi⟩
  by_cases hm : b ∈ [f, D, ci, ca, cn]
  · exact (allC (fun _ => kept gf (N _ (.head _)).1) (allC (fun q => absurd rfl q) (allC (fun _ => kept gi (N _ (.tail _ (.tail _ (.head _)))).1) (allC (fun _ => kept ga (N _ (.tail _ (.tail _ (.tail _ (.head _))))).1) (allC (fun _ => kept gn (N _ (.tail _ (.tail _ (.tail _ (.tail _ (.head _)))))).1) allN)))) : ∀ b ∈ [f, D, ci, ca, cn], b ≠ D → ∀ o, s.heap.get? b = some o → h.get? b = some o) b hm hb o e
  · exact F.keep b o (hideAll_get _ e hm)
theorem updS {D f ci ca cn : Addr} {o o' fo oi oa on : Obj} (h1 : cn < ca) (h2 : ca < ci) (h3 : ci < D) (h4 : D < f) : Upd D o o' [(f, fo), (D, o), (ci, oi), (ca, oa), (cn, on)] [(f, fo), (D, o'), (ci, oi), (ca, oa), (cn, on)] :=
  .tail (Nat.ne_of_gt h4) (.head fun q hq => by
    have h5 := Nat.lt_trans h2 h3
    have h6 := Nat.lt_trans h1 h5
    exact allC (p := fun q : Addr × Obj => q.1 ≠ D) (Nat.ne_of_lt h3) (allC (Nat.ne_of_lt h5) (allC (Nat.ne_of_lt h6) allN)) q hq)
theorem two_look {K : Frag} {a : Addr} {x y : Obj} {P : Prop} (h1 : K.lookup a = some x) (h2 : K.lookup a = some y) (h : x = y → P) : P := h (Option.some.inj (h1.symm.trans h2))
/-- of a written object's parts the name, the body and the scope alone are handed on -/
theorem look_parts {x : Option Obj} {nm nm' qual qual' : Str} {ps ps' : Arguments} {body body' : List Stmt} {sc sc' : Scope} {dV kV doc pm cdv ct oc dV' kV' doc' pm' cdv' ct' oc' : Value} {an od an' od' : Option Addr} {osl osl' : Array (Option Value)} {P : Prop}
    (h1 : x = some ⟨oc, od, .func (fnOf nm qual ps body sc dV kV doc pm an cdv ct), osl⟩) (h2 : x = some ⟨oc', od', .func (fnOf nm' qual' ps' body' sc' dV' kV' doc' pm' an' cdv' ct'), osl'⟩) (h : nm = nm' → body = body' → sc = sc' → P) : P :=
  have e := Data.func.inj (congrArg Obj.data (Option.some.inj (h1.symm.trans h2)))
  h (congrArg FuncData.name e) (FuncBody.stmts.inj (congrArg FuncData.body e)) (congrArg FuncData.scope e)
theorem for_parts {l : List Stmt} {tgt it tgt' it' : Expr} {bd more bd' more' : List Stmt} {pp pp' : Pos} {P : Prop} (e : l = .For tgt it bd [] pp :: more) (e' : l = .For tgt' it' bd' [] pp' :: more') (h : bd = bd' → more = more' → P) : P :=
  h (Stmt.For.inj (List.cons.inj (e.symm.trans e')).1).2.2.1 (List.cons.inj (e.symm.trans e')).2
theorem def_parts {params params' : Arguments} {body body' : List Stmt} {scope scope' : Scope} {nmi nmi' nmi2 nmi2' : Str} {ds0 ds0' : List Expr} {posi posi' : Pos} {r r' : List Stmt} {P : Prop}
    (e : Stmt.FunctionDef nmi params body ds0 none [] scope none nmi2 posi :: r = Stmt.FunctionDef nmi' params' body' ds0' none [] scope' none nmi2' posi' :: r') (h : params = params' → body = body' → scope = scope' → P) : P :=
  have E := Stmt.FunctionDef.inj (List.cons.inj e).1
  h E.2.1 E.2.2.1 E.2.2.2.2.2.2.1
theorem five {h : Heap} {a b c d e : Addr} {oa ob oc od oe : Obj} (ga : h.get? a = some oa) (gb : h.get? b = some ob) (gc : h.get? c = some oc) (gd : h.get? d = some od) (ge : h.get? e = some oe) :
    ∀ q ∈ [(a, oa), (b, ob), (c, oc), (d, od), (e, oe)], h.get? q.1 = some q.2 :=
  allC ga (allC gb (allC gc (allC gd (allC ge allN))))
end
section
namespace kinner_i
noncomputable abbrev V := (World) × (Nat) × (Addr) × (Addr) × (Addr) × (Addr) × (Addr) × (Addr) × (Obj) × (Obj) × (Obj) × (Tok) × (Addr) × (Addr) × (Heap) × (Heap) × (Program) × (List Str) × (ExcName → Option Value) × (Str → Option Value) × (Str → Option Value)
noncomputable def P (v : V) : Prop :=
  (fun (w : World) (n : Nat) (D : Addr) (ca : Addr) (ci : Addr) (cn : Addr) (f : Addr) (c' : Addr) (oa : Obj) (oi : Obj) (on : Obj) (tn : Tok) (C1 : Addr) (C2 : Addr) (hC : Heap) (G₀ : Heap) (p : Program) (loose : List Str) (mean : ExcName → Option Value) (mg : Str → Option Value) (mb : Str → Option Value) =>
  ∀ (qual nm ql nmi nmi2 : Str) (params ps : Arguments) (body : List Stmt) (scope sc : Scope) (doc pm ctv oc dV kV doc0 pm0 cdv ct : Value) (od an : Option Addr) (osl : Array (Option Value)) (st0 st2 st3 : Stmt) (posi : Pos) (ds0 : List Expr) (Cd : CodeHd hC C1 C2) (hK : (hd.heap_39 w.params).lookup 73 = some ⟨oc, od, .func (fnOf nm ql ps [st0, .FunctionDef nmi params body ds0 none [] scope none nmi2 posi, st2, st3] sc dV kV doc0 pm0 an cdv ct), osl⟩) (da : oa.data = .cell (some (.ref D))) (di : oi.data = .cell (some (.ref f))) (dn : on.data = .cell (some (.int n tn))) (X : (hd.heap_39 w.params).In G₀) (T : Top p loose mean mg mb G₀) (g1 : ∀ a ∈ [f, D, ci, ca, cn], G₀.get? a = none) (l1 : cn < ca) (l2 : ca < ci) (l3 : ci < D) (l4 : D < f) (hn : n ≤ 5000), ∀ k, k ≤ 20 → InnerI w n D f (InnerAt G₀ D ca ci cn f c' oa oi on (fnMade (Str.ofString "inner") qual params body scope [(Str.ofString "n", cn), (Str.ofString "inner", ci), (Str.ofString "a_digits", ca)] doc pm c' ctv) qual) k)
    v.1 v.2.1 v.2.2.1 v.2.2.2.1 v.2.2.2.2.1 v.2.2.2.2.2.1 v.2.2.2.2.2.2.1 v.2.2.2.2.2.2.2.1 v.2.2.2.2.2.2.2.2.1 v.2.2.2.2.2.2.2.2.2.1 v.2.2.2.2.2.2.2.2.2.2.1 v.2.2.2.2.2.2.2.2.2.2.2.1 v.2.2.2.2.2.2.2.2.2.2.2.2.1 v.2.2.2.2.2.2.2.2.2.2.2.2.2.1 v.2.2.2.2.2.2.2.2.2.2.2.2.2.2.1 v.2.2.2.2.2.2.2.2.2.2.2.2.2.2.2.1 v.2.2.2.2.2.2.2.2.2.2.2.2.2.2.2.2.1 v.2.2.2.2.2.2.2.2.2.2.2.2.2.2.2.2.2.1 v.2.2.2.2.2.2.2.2.2.2.2.2.2.2.2.2.2.2.1 v.2.2.2.2.2.2.2.2.2.2.2.2.2.2.2.2.2.2.2.1 v.2.2.2.2.2.2.2.2.2.2.2.2.2.2.2.2.2.2.2.2
@[irreducible] noncomputable def v0 : V := @Classical.epsilon V ⟨(aW, 0, 0, 0, 0, 0, 0, 0, { cls := .none, data := .cell none }, { cls := .none, data := .cell none }, { cls := .none, data := .cell none }, 0, 0, 0, {}, {}, PySem.Challenge.rw_rs0108_01.row.prog, [], fun _ => none, fun _ => none, fun _ => none)⟩ fun v => ¬ P v
noncomputable def w : World := v0.1
noncomputable def n : Nat := v0.2.1
noncomputable def D : Addr := v0.2.2.1
noncomputable def ca : Addr := v0.2.2.2.1
noncomputable def ci : Addr := v0.2.2.2.2.1
noncomputable def cn : Addr := v0.2.2.2.2.2.1
noncomputable def f : Addr := v0.2.2.2.2.2.2.1
noncomputable def c' : Addr := v0.2.2.2.2.2.2.2.1
noncomputable def oa : Obj := v0.2.2.2.2.2.2.2.2.1
noncomputable def oi : Obj := v0.2.2.2.2.2.2.2.2.2.1
noncomputable def on : Obj := v0.2.2.2.2.2.2.2.2.2.2.1
noncomputable def tn : Tok := v0.2.2.2.2.2.2.2.2.2.2.2.1
noncomputable def C1 : Addr := v0.2.2.2.2.2.2.2.2.2.2.2.2.1
noncomputable def C2 : Addr := v0.2.2.2.2.2.2.2.2.2.2.2.2.2.1
noncomputable def hC : Heap := v0.2.2.2.2.2.2.2.2.2.2.2.2.2.2.1
noncomputable def G₀ : Heap := v0.2.2.2.2.2.2.2.2.2.2.2.2.2.2.2.1
noncomputable def p : Program := v0.2.2.2.2.2.2.2.2.2.2.2.2.2.2.2.2.1
noncomputable def loose : List Str := v0.2.2.2.2.2.2.2.2.2.2.2.2.2.2.2.2.2.1
noncomputable def mean : ExcName → Option Value := v0.2.2.2.2.2.2.2.2.2.2.2.2.2.2.2.2.2.2.1
noncomputable def mg : Str → Option Value := v0.2.2.2.2.2.2.2.2.2.2.2.2.2.2.2.2.2.2.2.1
noncomputable def mb : Str → Option Value := v0.2.2.2.2.2.2.2.2.2.2.2.2.2.2.2.2.2.2.2.2
set_option maxHeartbeats 8000000 in
theorem main (qual nm ql nmi nmi2 : Str) (params ps : Arguments) (body : List Stmt) (scope sc : Scope) (doc pm ctv oc dV kV doc0 pm0 cdv ct : Value) (od an : Option Addr) (osl : Array (Option Value)) (st0 st2 st3 : Stmt) (posi : Pos) (ds0 : List Expr) (Cd : CodeHd hC C1 C2) (hK : (hd.heap_39 w.params).lookup 73 = some ⟨oc, od, .func (fnOf nm ql ps [st0, .FunctionDef nmi params body ds0 none [] scope none nmi2 posi, st2, st3] sc dV kV doc0 pm0 an cdv ct), osl⟩) (da : oa.data = .cell (some (.ref D))) (di : oi.data = .cell (some (.ref f))) (dn : on.data = .cell (some (.int n tn))) (X : (hd.heap_39 w.params).In G₀) (T : Top p loose mean mg mb G₀) (g1 : ∀ a ∈ [f, D, ci, ca, cn], G₀.get? a = none) (l1 : cn < ca) (l2 : ca < ci) (l3 : ci < D) (l4 : D < f) (hn : n ≤ 5000) :
    ∀ k, k ≤ 20 → InnerI w n D f (InnerAt G₀ D ca ci cn f c' oa oi on (fnMade (Str.ofString "inner") qual params body scope [(Str.ofString "n", cn), (Str.ofString "inner", ci), (Str.ofString "a_digits", ca)] doc pm c' ctv) qual) k := by
  w_top off
  unfold InnerI
  revert hK X
  k_fill
  intro hK X
  refine look_parts hK (by k_is) ?_
  intro _ hB _
  refine def_parts (List.cons.inj hB).2 ?_
  rintro rfl rfl rfl
  clear hB
  show ∀ k, k ≤ 20 → InnerI w n D f _ k
  intro k
  induction k with
  | zero =>
    intro _
    unfold InnerI
    intro A s x L R tx tL tR vs ds nn h1 h2
    exfalso; lia
  | succ k ih =>
    intro hk20
    have ih2 := ih (by lia)
    unfold InnerI
    intro A s x L R tx tL tR vs ds nn h1 h2 h3 h3' h4 hi hG hroom hh
    clear ih hK
    obtain ⟨lim, gD, ga, gi, gn, gf, gc⟩ := hG
    have lim0 := T.nolimit.keeps lim
    refine enterN (binds := [(Str.ofString "x", .int x tx), (Str.ofString "L", .int L tL), (Str.ofString "R", .int R tR)]) gf (five gf gD gi ga gn) lim0 (.head _) gc (by lia) rfl rfl ?_ (by decide) rfl rfl rfl
    intro h₁ F hk N
    have gc' : (hideAll s.heap [f, D, ci, ca, cn]).CodeRec (.ref c') qual := codeRec_hide gc (allC (noFields gf nofun) (allC (noFields gD nofun) (allC (noFields gi (by rw [di]; nofun)) (allC (noFields ga (by rw [da]; nofun)) (allC (noFields gn (by rw [dn]; nofun)) allN)))))
    have lim' := hide_keep lim g1
    replace X := X.keeps lim'
    replace T := T.keeps lim'
    change Fr (hideAll s.heap [f, D, ci, ca, cn]) _ _ _ at F
    change News (hideAll s.heap [f, D, ci, ca, cn]) _ _ _ at N
    have hfn : ∃ o, s.heap.get? f = some o ∧ IsFn o := ⟨_, gf, _, _, _, _, rfl⟩
    generalize fnMade (Str.ofString "inner") qual _ _ _ _ _ _ _ _ = fo at N gf ih2
    replace hfn : IsFn fo := by
      obtain ⟨o, e, ho⟩ := hfn
      rw [gf] at e; cases e; exact ho
    have hkk : R - L ≤ 20 := by lia
    have hbx : bitsN x ≤ n * (R - L) := bitsN_le.mpr h4
    have hnk : n * (R - L) ≤ 5000 * 20 := Nat.mul_le_mul hn hkk
    have hbn : bitsN n ≤ 2 ^ 20 := Nat.le_trans (bitsN_le.mpr (Nat.lt_two_pow_self (n := n))) (by lia)
    by_cases hone : L + 1 = R
    · have hLd : L < ds.length := by lia
      have hx1 : x < 2 ^ n := by rw [show R - L = 1 by lia, Nat.mul_one] at h4; exact h4
      have hRL : R - L = 1 := by lia
      clear gD gc lim lim0 h4 hbx hnk hbn ih2 hkk gc' lim' g1 hroom h2
      have hone' : ((L + 1 : Nat) : Int) = (R : Int) := by lia
      refine wp_cut 1 _ ?_
      dsimp only [List.take, List.drop]
      repeat' (first | with_reducible (show wpAny _ _ (setItem (.ref _) (.int _ _) _) _ _ _; refine ksa_set ‹_› ‹_› (updS ‹_› ‹_› ‹_› ‹_›) ‹_› (by lia) (by lia) (by lia) ?_; intro _ _ _ _ _ _) | ((with_reducible show FnAt _ _); exact fnAt_of ‹_› (by k_mem) ‹_›) | ((with_reducible show wpAny _ _ (callWith _ (.ref _) _ _ _) _ _ _); refine callWith_F (fnAt_of ‹_› (by k_mem) ‹_›) ?_) | ((with_reducible show wpAny _ _ (binaryOp _ (.int _ _) (.int _ _)) _ _ _); first | with_reducible (refine xorN ?_) | with_reducible (refine mulN ?_ ‹_› ‹_›) | with_reducible (refine subN ‹_› ?_) | with_reducible (refine shlN ‹_› ?_) | with_reducible (first | refine rshN1 ?_ | refine rshN ?_) | with_reducible (first | refine add1N ?_ | refine addN ?_)) | walk1)
      rotate_left
      · exfalso; lia
      rename Fr _ _ _ _ => F'
      rename News _ _ _ _ => N'
      rename (IntsAre (List.set _ _ _) _) => i'
      rw [Int.toNat_natCast] at i' N'
      rw [fillD_one hLd hx1] at i'
      rw [hRL]
      exact retI_of gf gi ga gn F' N' i'
    · have a1 : L < (L + R) / 2 := by lia
      have a2 : (L + R) / 2 ≤ L + k := by lia
      have a3 : (L + R) / 2 ≤ ds.length := by lia
      have a4 : (L + R) / 2 < R := by lia
      have a5 : R ≤ (L + R) / 2 + k := by lia
      obtain ⟨k1, hk1⟩ : ∃ k1, k1 = (L + R) / 2 - L := ⟨_, rfl⟩
      have a6 : x % 2 ^ (((L + R) / 2 - L) * n) < 2 ^ (n * ((L + R) / 2 - L)) := by rw [Nat.mul_comm]; exact Nat.mod_lt _ (Nat.two_pow_pos _)
      have a7 : x / 2 ^ (((L + R) / 2 - L) * n) < 2 ^ (n * (R - (L + R) / 2)) := by
        refine (Nat.div_lt_iff_lt_mul (Nat.two_pow_pos _)).mpr (Nat.lt_of_lt_of_le h4 ?_)
        rw [← Nat.pow_add, Nat.mul_comm ((L + R) / 2 - L) n, ← Nat.mul_add]
        exact Nat.pow_le_pow_right (by decide) (Nat.mul_le_mul_left _ (by lia))
      have a8 : R ≤ (fillD n ds L ((L + R) / 2 - L) (x % 2 ^ (((L + R) / 2 - L) * n))).length := by rw [fillD_len]; exact h3
      have a9 : bitsN ((L + R) / 2 - L) ≤ 2 ^ 20 := Nat.le_trans (bitsN_le.mpr (Nat.lt_two_pow_self (n := _))) (by lia)
      have a11 : ((L + R) / 2 - L) * n ≤ 20 * 5000 := Nat.mul_le_mul (by lia) hn
      have a10 : bitsN (x / 2 ^ (((L + R) / 2 - L) * n)) + ((L + R) / 2 - L) * n ≤ 2 ^ 27 := by
        have : bitsN (x / 2 ^ (((L + R) / 2 - L) * n)) ≤ n * (R - L) := bitsN_le.mpr (Nat.lt_of_le_of_lt (Nat.div_le_self _ _) h4)
        lia
      have a12 : L ≤ (L + R) / 2 := by lia
      have hone' : ((L + 1 : Nat) : Int) ≠ (R : Int) := by lia
      clear hk1 gD gc lim lim0
      repeat' (first | with_reducible (show wpAny _ _ (setItem (.ref _) (.int _ _) _) _ _ _; refine ksa_set ‹_› ‹_› (updS ‹_› ‹_› ‹_› ‹_›) ‹_› (by lia) (by lia) (by lia) ?_; intro _ _ _ _ _ _) | ((with_reducible show FnAt _ _); exact fnAt_of ‹_› (by k_mem) ‹_›) | ((with_reducible show wpAny _ _ (callWith _ (.ref _) _ _ _) _ _ _); refine callWith_F (fnAt_of ‹_› (by k_mem) ‹_›) ?_) | ((with_reducible show wpAny _ _ (binaryOp _ (.int _ _) (.int _ _)) _ _ _); first | with_reducible (refine xorN ?_) | with_reducible (refine mulN ?_ ‹_› ‹_›) | with_reducible (refine subN ‹_› ?_) | with_reducible (refine shlN ‹_› ?_) | with_reducible (first | refine rshN1 ?_ | refine rshN ?_) | with_reducible (first | refine add1N ?_ | refine addN ?_)) | walk1)
      · exfalso; lia
      · rename Fr _ _ _ _ => F'
        rename News _ _ _ _ => N'
        have hr2 : A.depth + 1 + k + 5 < recursionLimit := by lia
        have A1 := InnerAt.of (s := { s with heap := ‹Heap› }) rfl F' N' lim' gc'
        refine use_inner ih2 F' N' (upd5 l1 l2 l3 l4) a1 a2 a3 h3' a6 hi (InnerAt.of rfl F' N' lim' gc') hr2 hh ?_
        intro h5 tk5 vs5 F5 N5 i5 _
        try dsimp only at N5
        clear F' N' A1
        repeat' (first | with_reducible (show wpAny _ _ (setItem (.ref _) (.int _ _) _) _ _ _; refine ksa_set ‹_› ‹_› (updS ‹_› ‹_› ‹_› ‹_›) ‹_› (by lia) (by lia) (by lia) ?_; intro _ _ _ _ _ _) | ((with_reducible show FnAt _ _); exact fnAt_of ‹_› (by k_mem) ‹_›) | ((with_reducible show wpAny _ _ (callWith _ (.ref _) _ _ _) _ _ _); refine callWith_F (fnAt_of ‹_› (by k_mem) ‹_›) ?_) | ((with_reducible show wpAny _ _ (binaryOp _ (.int _ _) (.int _ _)) _ _ _); first | with_reducible (refine xorN ?_) | with_reducible (refine mulN ?_ ‹_› ‹_›) | with_reducible (refine subN ‹_› ?_) | with_reducible (refine shlN ‹_› ?_) | with_reducible (first | refine rshN1 ?_ | refine rshN ?_) | with_reducible (first | refine add1N ?_ | refine addN ?_)) | walk1)
        rename Fr _ _ _ _ => F'
        rename News _ _ _ _ => N'
        refine use_inner ih2 F' N' (upd5 l1 l2 l3 l4) a4 a5 a8 (by rw [fillD_len]; exact h3') a7 i5 (InnerAt.of rfl F' N' lim' gc') hr2 hh ?_
        intro h6 tk6 vs6 F6 N6 i6 _
        try dsimp only at N5
        have ef : L + ((L + R) / 2 - L) = (L + R) / 2 := by lia
        have hfd := fillD_two (n := n) (ds := ds) (L := L) (k1 := (L + R) / 2 - L) (k2 := R - (L + R) / 2) (x := x)
        rw [ef, show (L + R) / 2 - L + (R - (L + R) / 2) = R - L by lia] at hfd
        rw [hfd] at i6
        clear F' N'
        repeat' (first | with_reducible (show wpAny _ _ (setItem (.ref _) (.int _ _) _) _ _ _; refine ksa_set ‹_› ‹_› (updS ‹_› ‹_› ‹_› ‹_›) ‹_› (by lia) (by lia) (by lia) ?_; intro _ _ _ _ _ _) | ((with_reducible show FnAt _ _); exact fnAt_of ‹_› (by k_mem) ‹_›) | ((with_reducible show wpAny _ _ (callWith _ (.ref _) _ _ _) _ _ _); refine callWith_F (fnAt_of ‹_› (by k_mem) ‹_›) ?_) | ((with_reducible show wpAny _ _ (binaryOp _ (.int _ _) (.int _ _)) _ _ _); first | with_reducible (refine xorN ?_) | with_reducible (refine mulN ?_ ‹_› ‹_›) | with_reducible (refine subN ‹_› ?_) | with_reducible (refine shlN ‹_› ?_) | with_reducible (first | refine rshN1 ?_ | refine rshN ?_) | with_reducible (first | refine add1N ?_ | refine addN ?_)) | walk1)
        exact retI_of gf gi ga gn F6 N6 i6
theorem all (v : V) : P v := byEps (v0 := v0) (by unfold v0; rfl) main v
end kinner_i
theorem inner_i {w : World} {n : Nat} {D ca ci cn f c' : Addr} {oa oi on : Obj} {tn : Tok} {qual nm ql nmi nmi2 : Str} {params ps : Arguments} {body : List Stmt} {scope sc : Scope} {doc pm ctv oc dV kV doc0 pm0 cdv ct : Value} {od an : Option Addr} {osl : Array (Option Value)} {st0 st2 st3 : Stmt} {posi : Pos} {ds0 : List Expr} {C1 C2 : Addr} {hC G₀ : Heap} {p : Program} {loose : List Str} {mean : ExcName → Option Value} {mg mb : Str → Option Value} (Cd : CodeHd hC C1 C2) (hK : (hd.heap_39 w.params).lookup 73 = some ⟨oc, od, .func (fnOf nm ql ps [st0, .FunctionDef nmi params body ds0 none [] scope none nmi2 posi, st2, st3] sc dV kV doc0 pm0 an cdv ct), osl⟩) (da : oa.data = .cell (some (.ref D))) (di : oi.data = .cell (some (.ref f))) (dn : on.data = .cell (some (.int n tn))) (X : (hd.heap_39 w.params).In G₀) (T : Top p loose mean mg mb G₀) (g1 : ∀ a ∈ [f, D, ci, ca, cn], G₀.get? a = none) (l1 : cn < ca) (l2 : ca < ci) (l3 : ci < D) (l4 : D < f) (hn : n ≤ 5000) :
    ∀ k, k ≤ 20 → InnerI w n D f (InnerAt G₀ D ca ci cn f c' oa oi on (fnMade (Str.ofString "inner") qual params body scope [(Str.ofString "n", cn), (Str.ofString "inner", ci), (Str.ofString "a_digits", ca)] doc pm c' ctv) qual) k := kinner_i.all (w, n, D, ca, ci, cn, f, c', oa, oi, on, tn, C1, C2, hC, G₀, p, loose, mean, mg, mb) qual nm ql nmi nmi2 params ps body scope sc doc pm ctv oc dV kV doc0 pm0 cdv ct od an osl st0 st2 st3 posi ds0 Cd hK da di dn X T g1 l1 l2 l3 l4 hn
end
end Mine
end
-- part I2d
section
open PySem PySem.W PySem.Calls PyProof.Rows
namespace Mine
noncomputable def digs (n a : Nat) : List Int := (List.range ((bitsN a + n - 1) / n)).map fun i => ((a / 2 ^ (n * i) % 2 ^ n : Nat) : Int)
theorem digs_fill {n a : Nat} (hn : 0 < n) : fillD n (List.replicate ((bitsN a + n - 1) / n) 0) 0 ((bitsN a + n - 1) / n) a = digs n a := by
  unfold digs
  generalize (bitsN a + n - 1) / n = ln
  refine ext_getD (by simp [fillD_len]) fun i hi => ?_
  rw [fillD_len, List.length_replicate] at hi
  rw [fillD_get (by rw [List.length_replicate]; exact hi), if_pos ⟨Nat.zero_le _, by lia⟩, Nat.sub_zero]
  simp [List.getD_eq_getElem?_getD, List.getElem?_range hi, dig]
theorem digs_zero {n : Nat} (hn : 0 < n) : (bitsN 0 + n - 1) / n = 0 := by
  have e : bitsN 0 = 0 := by decide
  rw [e]; exact Nat.div_eq_of_lt (by lia)
theorem digs_room {n a : Nat} (hn : 0 < n) : a < 2 ^ (n * ((bitsN a + n - 1) / n)) := by
  refine bitsN_le.mp ?_
  have h1 := Nat.div_add_mod (bitsN a + n - 1) n
  have h2 := Nat.mod_lt (bitsN a + n - 1) hn
  lia
theorem digs_pos {n a : Nat} (hn : 0 < n) (ha : 0 < a) : 0 < (bitsN a + n - 1) / n := by
  refine Nat.div_pos ?_ hn
  have : ¬ bitsN a ≤ 0 := fun h => by have := bitsN_le.mp h; lia
  lia
theorem qualI {sc : Scope} {L a : Addr} {cd : Value} (h : qualnameIn (envOfC (Str.ofString "_int2digits") sc L a cd) (Str.ofString "inner") (Str.ofString "inner") = (Str.ofString "_int2digits" ++ ".<locals>.") ++ Str.ofString "inner") : qualnameIn (envOfC (Str.ofString "_int2digits") sc L a cd) (Str.ofString "inner") (Str.ofString "inner") = Str.ofString "_int2digits.<locals>.inner" := by
  rw [h]; decide +kernel
theorem tab_news {g h : Heap} {L : Addr} {c : Addr} {news : List (Addr × Obj)} {P : Addr} {pos : Int × Int} {q : Str} (N : News g L h news) (hm : (P, tabObj #[rawInt pos.1, rawInt pos.2, .ref c]) ∈ news) (hc : h.CodeRec (.ref c) q) (h1 : c ≠ 68) (h2 : c ≠ 75) : TabS P pos q h :=
  ⟨_, (N _ hm).1, .inr ⟨c, rfl, hc, h1, h2⟩⟩
theorem five_fresh {h : Heap} {a b c d e : Addr} (ha : h.get? a = none) (hb : h.get? b = none) (hc : h.get? c = none) (hd : h.get? d = none) (he : h.get? e = none) : ∀ x ∈ [a, b, c, d, e], h.get? x = none :=
  allC ha (allC hb (allC hc (allC hd (allC he allN))))
noncomputable def RetD (P : Addr) (Tb : Heap → Prop) (ds : List Int) (s : Shared) (r : Result) (s' : Shared) : Prop :=
  ∃ D h' tk vs nn, r = .ok (.ret (.ref D)) ∧ s' = { s with heap := h', toks := tk } ∧ (∀ b o, b ≠ P → s.heap.get? b = some o → h'.get? b = some o) ∧ Tb h' ∧ h'.get? D = some (listOf vs.toArray nn) ∧ IntsAre vs ds ∧ s.heap.get? D = none
noncomputable abbrev Tab68 (h : Heap) : Prop := TabS 68 (76, 4) (Str.ofString "_int2digits.<locals>.inner") h
theorem retD_of {s : Shared} {L D : Addr} {m : Str → Option Value} {h : Heap} {news : List (Addr × Obj)} {vs : List Value} {nn tk : Nat} {ds : List Int} (F : Fr (hideAll s.heap [68]) L h m) (N : News (hideAll s.heap [68]) L h news) (hm : (D, listOf vs.toArray nn) ∈ news) (hi : IntsAre vs ds) (hD : s.heap.objs.size ≤ D) (hT : Tab68 h) :
    RetD 68 Tab68 ds s (.ok (.ret (.ref D))) { s with heap := h, toks := tk } :=
  ⟨D, h, tk, vs, nn, rfl, rfl, fun b o hb e => F.keep b o (hideAll_get _ e (by simpa using hb)), hT, N.get hm, hi, Heap.get?_none_of_le hD⟩
section
variable {w : World} {A : Around} {s : Shared} {p : Program} {loose : List Str} {mean : ExcName → Option Value} {mg mb : Str → Option Value}
end
section
namespace ki2d_spec
noncomputable abbrev V := (World) × (Around) × (Shared) × (Program) × (List Str) × (ExcName → Option Value) × (Str → Option Value) × (Str → Option Value) × (Heap) × (Nat) × (Nat) × (Tok) × (Tok)
noncomputable def P (v : V) : Prop :=
  (fun (w : World) (A : Around) (s : Shared) (p : Program) (loose : List Str) (mean : ExcName → Option Value) (mg : Str → Option Value) (mb : Str → Option Value) (g : Heap) (a : Nat) (n : Nat) (ta : Tok) (tn : Tok) =>
  ∀ (hg : ∀ b o, g.get? b = some o → s.heap.get? b = some o) (hgs : g.objs.size ≤ s.heap.objs.size) (g68 : g.get? 68 = none) (hT : Tab68 s.heap) (hn0 : 0 < n) (hn : n ≤ 5000) (ha : a < 2 ^ 20000) (hl20 : (bitsN a + n - 1) / n ≤ 20) (C : CodeHd g 72 68) (X : (hd.heap_39 w.params).In g) (T : Top p loose mean mg mb g) (hroom : A.depth + 30 < recursionLimit) (hh : A.handled = none), codeAny (model PySem.Challenge.rw_rs0108_01.row.prog w) A (.call (.ref 73) ⟨[.int a ta, .int n tn], []⟩) (RetD 68 Tab68 (digs n a) s) s)
    v.1 v.2.1 v.2.2.1 v.2.2.2.1 v.2.2.2.2.1 v.2.2.2.2.2.1 v.2.2.2.2.2.2.1 v.2.2.2.2.2.2.2.1 v.2.2.2.2.2.2.2.2.1 v.2.2.2.2.2.2.2.2.2.1 v.2.2.2.2.2.2.2.2.2.2.1 v.2.2.2.2.2.2.2.2.2.2.2.1 v.2.2.2.2.2.2.2.2.2.2.2.2
@[irreducible] noncomputable def v0 : V := @Classical.epsilon V ⟨(aW, callerA, {}, PySem.Challenge.rw_rs0108_01.row.prog, [], fun _ => none, fun _ => none, fun _ => none, {}, 0, 0, 0, 0)⟩ fun v => ¬ P v
noncomputable def w : World := v0.1
noncomputable def A : Around := v0.2.1
noncomputable def s : Shared := v0.2.2.1
noncomputable def p : Program := v0.2.2.2.1
noncomputable def loose : List Str := v0.2.2.2.2.1
noncomputable def mean : ExcName → Option Value := v0.2.2.2.2.2.1
noncomputable def mg : Str → Option Value := v0.2.2.2.2.2.2.1
noncomputable def mb : Str → Option Value := v0.2.2.2.2.2.2.2.1
noncomputable def g : Heap := v0.2.2.2.2.2.2.2.2.1
noncomputable def a : Nat := v0.2.2.2.2.2.2.2.2.2.1
noncomputable def n : Nat := v0.2.2.2.2.2.2.2.2.2.2.1
noncomputable def ta : Tok := v0.2.2.2.2.2.2.2.2.2.2.2.1
noncomputable def tn : Tok := v0.2.2.2.2.2.2.2.2.2.2.2.2
set_option maxHeartbeats 8000000 in
theorem main (hg : ∀ b o, g.get? b = some o → s.heap.get? b = some o) (hgs : g.objs.size ≤ s.heap.objs.size) (g68 : g.get? 68 = none) (hT : Tab68 s.heap) (hn0 : 0 < n) (hn : n ≤ 5000) (ha : a < 2 ^ 20000) (hl20 : (bitsN a + n - 1) / n ≤ 20) (C : CodeHd g 72 68) (X : (hd.heap_39 w.params).In g) (T : Top p loose mean mg mb g) (hroom : A.depth + 30 < recursionLimit) (hh : A.handled = none) :
    codeAny (model PySem.Challenge.rw_rs0108_01.row.prog w) A (.call (.ref 73) ⟨[.int a ta, .int n tn], []⟩) (RetD 68 Tab68 (digs n a) s) s := by
  w_top off
  revert X
  k_fill
  intro X
  have hg' := hide_keep (as := [68]) hg (fun a ha => by rw [List.mem_singleton.mp ha]; exact g68)
  have hgk : ∀ b o, (hideAll s.heap [68]).get? b = some o → s.heap.get? b = some o := fun b o e => of_hideAll _ e
  refine enterC (g := hideAll s.heap [68]) (binds := [(Str.ofString "a", .int a ta), (Str.ofString "n", .int n tn)]) hgk (Nat.le_of_eq (hideAll_size _ _)) (X.keeps hg') (T.keeps hg') (by k_is) (by k_is) (by lia) rfl rfl (by decide +kernel) ?_ rfl rfl rfl
  intro h₁ tk cells F hk N Y
  replace C := C.keeps hg'
  replace X := X.keeps hg'
  replace T := T.keeps hg'
  k_cells Y
  rename_i o1 o2 o3 d1 d2 d3
  replace d1 : o1.data = .cell none := d1
  replace d2 : o2.data = .cell none := d2
  replace d3 : o3.data = .cell (some (.int n tn)) := d3
  replace F : Fr (hideAll s.heap [68]) s.heap.objs.size h₁ (fun y => if y = Str.ofString "a" then some (.int a ta) else none) := F
  obtain ⟨ps, hps, htab⟩ := hT
  have l68 : 68 < s.heap.objs.size := Heap.lt_size hps
  have N2 : News (hideAll s.heap [68]) s.heap.objs.size h₁ [(s.heap.objs.size + 1 + 1 + 1, o1), (s.heap.objs.size + 1 + 1, o2), (s.heap.objs.size + 1, o3), (68, tabObj ps)] := fun q hq => by
    rcases List.mem_append.mp (show q ∈ [(s.heap.objs.size + 1 + 1 + 1, o1), (s.heap.objs.size + 1 + 1, o2), (s.heap.objs.size + 1, o3)] ++ [(68, tabObj ps)] from hq) with hq | hq
    · exact N q hq
    · rw [List.mem_singleton.mp hq]
      exact ⟨hk _ _ hps, Nat.ne_of_lt l68, hideAll_none _ (.head _)⟩
  clear N
  have hnz : (n : Int) ≠ 0 := by lia
  have hb := bitsN_le.mpr ha
  clear ha
  refine wp_cut 1 _ ?_
  dsimp only [List.take, List.drop]
  repeat' (first | ((with_reducible show wpAny _ _ (binaryOp _ (.int _ _) (.int _ _)) _ _ _); first | with_reducible (first | (refine subN ‹_› ?_) | refine PyProof.Rows.sub_int ?_) | with_reducible (refine shlN ‹_› ?_) | with_reducible (first | refine rshN1 ?_ | refine rshN ?_)) | walk1)
  obtain ⟨ln, hln⟩ : ∃ ln, ln = (bitsN a + n - 1) / n := ⟨_, rfl⟩
  have elen : (((Builtin.Int.intBits (a : Int) : Nat) : Int) + (n : Int) - 1).fdiv (n : Int) = (ln : Int) := by
    rw [Int.fdiv_eq_ediv_of_nonneg _ (by lia), hln, show (((Builtin.Int.intBits (a : Int) : Nat) : Int) + (n : Int) - 1) = ((bitsN a + n - 1 : Nat) : Int) by
      show ((bitsN a : Nat) : Int) + (n : Int) - 1 = _
      lia, Int.natCast_ediv]
  have hln2 : ln ≤ 25000 := by
    rw [hln]; exact Nat.le_trans (Nat.div_le_self _ _) (by lia)
  rw [elen]
  rename Fr _ _ _ _ => F3
  rename News _ _ _ _ => N3
  refine KM.mul F3 N3 (News.isList N3 (.head _)) (.cons 0 _ .nil) (by lia) (by lia) (by simp; lia) fun D h4 F4 N4 l1 i1 M z1 z2 z3 z4 => ?_
  rw [Int.toNat_natCast] at i1 N4 z1 z2
  rw [krep_flat] at i1 z2
  rw [List.length_replicate] at z2
  subst z2
  clear z3 z4 elen F3 N3
  obtain ⟨vs, hvs⟩ : ∃ vs, vs = (List.replicate ln [Value.int 0 tk]).flatten := ⟨_, rfl⟩
  rw [← hvs] at N4 i1 z1
  replace N4 : News (hideAll s.heap [68]) s.heap.objs.size h4 [(D, listOf vs.toArray 0), (s.heap.objs.size + 1 + 1 + 1, o1), (s.heap.objs.size + 1 + 1, o2), (s.heap.objs.size + 1, o3), (68, tabObj ps)] := fun q hq => N4 q (by
    rcases List.mem_cons.mp hq with hq | hq
    · rw [hq]; exact .head _
    · exact .tail _ (.tail _ hq))
  clear hvs
  k_lt l1
  repeat' (first | ((with_reducible show wpAny _ _ (binaryOp _ (.int _ _) (.int _ _)) _ _ _); first | with_reducible (first | (refine subN ‹_› ?_) | refine PyProof.Rows.sub_int ?_) | with_reducible (refine shlN ‹_› ?_) | with_reducible (first | refine rshN1 ?_ | refine rshN ?_)) | walk1)
  refine .mk ?_
  refine wp_cut 1 _ ?_
  dsimp only [List.take, List.drop]
  have l75 : 75 < s.heap.objs.size := Nat.lt_of_lt_of_le (Nat.lt_of_lt_of_le (by decide) (Heap.lt_size (X 79 _ rfl))) (Nat.le_of_eq (hideAll_size _ _))
  rename Fr _ _ _ _ => F5
  rename News _ _ _ _ => N5
  rename Obj => o4
  rename (o4.data = _) => d4
  have hlen0 : a = 0 → ln = 0 := fun e => by rw [hln, e]; exact digs_zero hn0
  have hlen1 : a ≠ 0 → 0 < ln := fun e => by rw [hln]; exact digs_pos hn0 (by lia)
  have hroomA : a < 2 ^ (n * (ln - 0)) := by rw [hln]; exact digs_room hn0
  have hdg : fillD n (List.replicate ln 0) 0 (ln - 0) a = digs n a := by rw [hln]; exact digs_fill hn0
  rcases htab with rfl | ⟨c, rfl, hcr, hc1, hc2⟩
  all_goals
    repeat' (first | ((with_reducible show wpAny _ _ (binaryOp _ (.int _ _) (.int _ _)) _ _ _); first | with_reducible (first | (refine subN ‹_› ?_) | refine PyProof.Rows.sub_int ?_) | with_reducible (refine shlN ‹_› ?_) | with_reducible (first | refine rshN1 ?_ | refine rshN ?_)) | walk1)
    refine .mk ?_
  all_goals
    rename Fr _ _ _ _ => F6
    rename News _ _ _ _ => N6
    rw [qualI rfl] at *
    clear hk hg
  rotate_left
  replace hcr := Heap.CodeRec.at (h' := hideAll s.heap [68]) hcr (fun o e => hideAll_get _ e (by simpa using hc1))
  all_goals
    repeat' (first | ((with_reducible show wpAny _ _ (binaryOp _ (.int _ _) (.int _ _)) _ _ _); first | with_reducible (first | (refine subN ‹_› ?_) | refine PyProof.Rows.sub_int ?_) | with_reducible (refine shlN ‹_› ?_) | with_reducible (first | refine rshN1 ?_ | refine rshN ?_)) | walk1)
    next =>
      rename Fr _ _ _ _ => F7
      rename News _ _ _ _ => N7
      rename ((a : Int) ≠ 0) => ha0
      have hl := hlen1 (by lia)
      refine use_inner (L := 0) (inner_i (ca := s.heap.objs.size + 1 + 1) (ci := s.heap.objs.size + 1 + 1 + 1) (cn := s.heap.objs.size + 1) C (by k_is) d4 (by assumption) d3 X T (five_fresh (N7.fresh (by k_mem)) (N7.fresh (by k_mem)) (N7.fresh (by k_mem)) (N7.fresh (by k_mem)) (N7.fresh (by k_mem))) (ltN (by lia)) (ltN (by lia)) (ltN (by lia)) (ltN (by lia)) hn 20 (Nat.le_refl _)) F7 N7 (by k_updF) hl (by lia) (by rw [List.length_replicate]; exact Nat.le_refl _) (by rw [List.length_replicate]; lia) hroomA i1 
        ⟨F7.keep, N7.get (by k_mem), N7.get (by k_mem), N7.get (by k_mem), N7.get (by k_mem), N7.get (by k_mem), by first | exact codeRec_news N7 (by k_mem) (by assumption) (by assumption) | exact hcr.keeps F7.keep⟩ (by show A.depth + 1 + 20 + 5 < recursionLimit; lia) hh ?_
      intro h8 tk8 vs8 F8 N8 i8 _
      try dsimp only at N8
      rw [hdg] at i8
      clear F7 N7
      repeat' (first | ((with_reducible show wpAny _ _ (binaryOp _ (.int _ _) (.int _ _)) _ _ _); first | with_reducible (first | (refine subN ‹_› ?_) | refine PyProof.Rows.sub_int ?_) | with_reducible (refine shlN ‹_› ?_) | with_reducible (first | refine rshN1 ?_ | refine rshN ?_)) | walk1)
      show RetD _ _ _ _ _ _
      refine retD_of F8 N8 (by k_mem) i8 (Nat.le_of_lt (ltN (by lia))) ?_
      first
        | exact tab_news N8 (by k_mem) (codeRec_news N8 (by k_mem) (by assumption) (by assumption)) (neN (by lia)) (neN (by lia))
        | exact tab_news N8 (by k_mem) (hcr.keeps F8.keep) hc1 hc2
    rename Fr _ _ _ _ => F8
    rename News _ _ _ _ => N8
    rename ((a : Int) = 0) => ha0
    have ha0 : a = 0 := by lia
    have hl := hlen0 ha0
    rw [hl] at i1
    show RetD _ _ _ _ _ _
    refine retD_of F8 N8 (by k_mem) (vs := vs) (by rw [← hdg, hl]; exact i1) (Nat.le_of_lt (ltN (by lia))) ?_
    first
      | exact tab_news N8 (by k_mem) (codeRec_news N8 (by k_mem) (by assumption) (by assumption)) (neN (by lia)) (neN (by lia))
      | exact tab_news N8 (by k_mem) (hcr.keeps F8.keep) hc1 hc2
theorem all (v : V) : P v := byEps (v0 := v0) (by unfold v0; rfl) main v
end ki2d_spec
theorem i2d_spec {w : World} {A : Around} {s : Shared} {p : Program} {loose : List Str} {mean : ExcName → Option Value} {mg : Str → Option Value} {mb : Str → Option Value} {g : Heap} {a n : Nat} {ta tn : Tok} (hg : ∀ b o, g.get? b = some o → s.heap.get? b = some o) (hgs : g.objs.size ≤ s.heap.objs.size) (g68 : g.get? 68 = none) (hT : Tab68 s.heap) (hn0 : 0 < n) (hn : n ≤ 5000) (ha : a < 2 ^ 20000) (hl20 : (bitsN a + n - 1) / n ≤ 20) (C : CodeHd g 72 68) (X : (hd.heap_39 w.params).In g) (T : Top p loose mean mg mb g) (hroom : A.depth + 30 < recursionLimit) (hh : A.handled = none) :
    codeAny (model PySem.Challenge.rw_rs0108_01.row.prog w) A (.call (.ref 73) ⟨[.int a ta, .int n tn], []⟩) (RetD 68 Tab68 (digs n a) s) s := ki2d_spec.all (w, A, s, p, loose, mean, mg, mb, g, a, n, ta, tn) hg hgs g68 hT hn0 hn ha hl20 C X T hroom hh
end
end Mine
end
-- part D2i
section
open PySem PySem.W PySem.Calls PyProof.Rows
namespace Mine
/-- the number that digits spell, the lowest first -/
noncomputable def valD (n : Nat) : List Nat → Nat
  | [] => 0
  | e :: r => e + 2 ^ n * valD n r
theorem valD_app {n : Nat} : ∀ l1 l2 : List Nat, valD n (l1 ++ l2) = valD n l1 + 2 ^ (n * l1.length) * valD n l2
  | [], l2 => by simp [valD]
  | e :: r, l2 => by
    have e2 : 2 ^ (n * (r.length + 1)) = 2 ^ n * 2 ^ (n * r.length) := by rw [← Nat.pow_add, Nat.mul_add, Nat.mul_one, Nat.add_comm]
    rw [List.cons_append, valD, valD, valD_app r l2, List.length_cons, e2, Nat.mul_add, Nat.mul_assoc, Nat.add_assoc]
theorem valD_lt {n : Nat} : ∀ l : List Nat, (∀ e ∈ l, e < 2 ^ n) → valD n l < 2 ^ (n * l.length)
  | [], _ => by simp [valD]
  | e :: r, h => by
    have h1 := h e (.head _)
    have h2 := valD_lt r fun x hx => h x (.tail _ hx)
    rw [valD, List.length_cons, Nat.mul_add, Nat.mul_one, Nat.pow_add, Nat.mul_comm (2 ^ (n * r.length))]
    have h3 := Nat.mul_le_mul_left (2 ^ n) (Nat.succ_le_of_lt h2)
    rw [Nat.mul_succ] at h3
    lia
noncomputable def natsI (es : List Nat) : List Int := es.map fun (e : Nat) => (e : Int)
theorem natsI_len (es : List Nat) : (natsI es).length = es.length := by simp [natsI]
theorem natsI_get (es : List Nat) (i : Nat) : (natsI es).getD i 0 = ((es.getD i 0 : Nat) : Int) := by
  simp only [natsI, List.getD_eq_getElem?_getD, List.getElem?_map]
  cases es[i]? <;> rfl
noncomputable def cutD (es : List Nat) (L R : Nat) : List Nat := (es.take R).drop L
theorem cutD_len {es : List Nat} {L R : Nat} (h : R ≤ es.length) : (cutD es L R).length = R - L := by simp [cutD, Nat.min_eq_left h]
theorem cutD_app {es : List Nat} {L M R : Nat} (h1 : L ≤ M) (h2 : M ≤ R) (h3 : R ≤ es.length) : cutD es L R = cutD es L M ++ cutD es M R := by
  unfold cutD
  have e : es.take R = es.take M ++ (es.take R).drop M := by
    conv => lhs; rw [← List.take_append_drop M (es.take R)]
    rw [List.take_take, Nat.min_eq_left h2]
  conv => lhs; rw [e]
  rw [List.drop_append_of_le_length (by simp; lia)]
theorem cutD_one {es : List Nat} {L : Nat} (h : L < es.length) : cutD es L (L + 1) = [es.getD L 0] := by
  unfold cutD
  rw [List.take_add_one, List.drop_append_of_le_length (by simp; lia)]
  simp [List.getElem?_eq_getElem h]
theorem cutD_mem {es : List Nat} {L R e : Nat} (h : e ∈ cutD es L R) : e ∈ es := List.mem_of_mem_take (List.mem_of_mem_drop h)
noncomputable def RetV (x : Int) (s : Shared) (r : Result) (s' : Shared) : Prop :=
  ∃ h' tk t, r = .ok (.ret (.int x t)) ∧ s' = { s with heap := h', toks := tk } ∧ ∀ b o, s.heap.get? b = some o → h'.get? b = some o
section
variable {w : World} {p : Program} {loose : List Str} {mean : ExcName → Option Value} {mg mb : Str → Option Value}
noncomputable def InnerD (w : World) (n : Nat) (f : Addr) (es : List Nat) (G : Shared → Prop) (k : Nat) : Prop :=
  ∀ (A : Around) (s : Shared) (L R : Nat) (tL tR : Tok), L < R → R ≤ L + k → R ≤ es.length → G s → A.depth + k + 5 < recursionLimit → A.handled = none →
    codeAny (model PySem.Challenge.rw_rs0108_01.row.prog w) A (.call (.ref f) ⟨[.int L tL, .int R tR], []⟩) (RetV ((valD n (cutD es L R) : Nat) : Int) s) s
theorem use_innerD {A : Around} {s : Shared} {n : Nat} {f : Addr} {es : List Nat} {GG : Shared → Prop} {k : Nat} {L R : Nat} {tL tR : Tok} {h₀ : Heap} {L₀ : Addr} {m : Str → Option Value} {news : List (Addr × Obj)} {E : Value → Shared → Prop} {Q : Value → Shared → Prop}
    (ih : InnerD w n f es GG k) (F : Fr h₀ L₀ s.heap m) (N : News h₀ L₀ s.heap news) (h1 : L < R) (h2 : R ≤ L + k) (h3 : R ≤ es.length) (hG : GG s) (hroom : A.depth + k + 5 < recursionLimit) (hh : A.handled = none)
    (h : ∀ h' tk t, Fr h₀ L₀ h' m → News h₀ L₀ h' news → Q (.int ((valD n (cutD es L R) : Nat) : Int) t) { s with heap := h', toks := tk }) :
    wpAny (model PySem.Challenge.rw_rs0108_01.row.prog w) A (call (.ref f) [.int L tL, .int R tR]) Q E s := by
  refine wpAny_call (codeAny_mono (ih _ _ _ _ _ _ h1 h2 h3 hG hroom hh) ?_)
  rintro r s' ⟨h', tk, t, rfl, rfl, hk⟩
  exact h h' tk t (Fr.keeps F hk) (News.grown N hk)
theorem retV_of {s : Shared} {D f ci ca cn L : Addr} {fo oD oi oa on : Obj} {tk : Nat} {x : Int} {t : Tok} {h : Heap} {m : Str → Option Value} (gf : s.heap.get? f = some fo) (gD : s.heap.get? D = some oD) (gi : s.heap.get? ci = some oi) (ga : s.heap.get? ca = some oa) (gn : s.heap.get? cn = some on)
    (F : Fr (hideAll s.heap [f, D, ci, ca, cn]) L h m) (N : News (hideAll s.heap [f, D, ci, ca, cn]) L h [(f, fo), (D, oD), (ci, oi), (ca, oa), (cn, on)]) : RetV x s (.ok (.ret (.int x t))) { s with heap := h, toks := tk } := by
  refine ⟨h, tk, t, rfl, rfl, fun b o e => ?_⟩
  by_cases hm : b ∈ [f, D, ci, ca, cn]
  · exact (allC (kept gf (N _ (.head _)).1) (allC (kept gD (N _ (.tail _ (.head _))).1) (allC (kept gi (N _ (.tail _ (.tail _ (.head _)))).1) (allC (kept ga (N _ (.tail _ (.tail _ (.tail _ (.head _))))).1) (allC (kept gn (N _ (.tail _ (.tail _ (.tail _ (.tail _ (.head _)))))).1) allN)))) : ∀ b ∈ [f, D, ci, ca, cn], ∀ o, s.heap.get? b = some o → h.get? b = some o) b hm o e
  · exact F.keep b o (hideAll_get _ e hm)
end
section
namespace kinner_d
noncomputable abbrev V := (World) × (Program) × (List Str) × (ExcName → Option Value) × (Str → Option Value) × (Str → Option Value) × (Nat) × (Nat) × (Addr) × (Addr) × (Addr) × (Addr) × (Addr) × (Addr) × (Obj) × (Obj) × (Obj) × (Tok) × (List Value) × (List Nat) × (Addr) × (Addr) × (Heap) × (Heap)
noncomputable def P (v : V) : Prop :=
  (fun (w : World) (p : Program) (loose : List Str) (mean : ExcName → Option Value) (mg : Str → Option Value) (mb : Str → Option Value) (n : Nat) (nn : Nat) (D : Addr) (ca : Addr) (ci : Addr) (cn : Addr) (f : Addr) (c' : Addr) (oa : Obj) (oi : Obj) (on : Obj) (tn : Tok) (vs : List Value) (es : List Nat) (C1 : Addr) (C2 : Addr) (hC : Heap) (G₀ : Heap) =>
  ∀ (qual nm ql nmi nmi2 : Str) (params ps : Arguments) (body : List Stmt) (scope sc : Scope) (doc pm ctv oc dV kV doc0 pm0 cdv ct : Value) (od an : Option Addr) (osl : Array (Option Value)) (st1 : Stmt) (posi : Pos) (ds0 : List Expr) (Cd : CodeHd hC C1 C2) (hK : (hd.heap_39 w.params).lookup 80 = some ⟨oc, od, .func (fnOf nm ql ps [.FunctionDef nmi params body ds0 none [] scope none nmi2 posi, st1] sc dV kV doc0 pm0 an cdv ct), osl⟩) (da : oa.data = .cell (some (.ref D))) (di : oi.data = .cell (some (.ref f))) (dn : on.data = .cell (some (.int n tn))) (X : (hd.heap_39 w.params).In G₀) (T : Top p loose mean mg mb G₀) (g1 : ∀ a ∈ [f, D, ci, ca, cn], G₀.get? a = none) (hn : n ≤ 5000) (hi : IntsAre vs (natsI es)) (hes : ∀ e ∈ es, e < 2 ^ n) (hel : es.length ≤ 1000), ∀ k, k ≤ 20 → InnerD w n f es (fun s => InnerAt G₀ D ca ci cn f c' oa oi on (fnMade (Str.ofString "inner") qual params body scope [(Str.ofString "n", cn), (Str.ofString "inner", ci), (Str.ofString "digits", ca)] doc pm c' ctv) qual s vs nn) k)
    v.1 v.2.1 v.2.2.1 v.2.2.2.1 v.2.2.2.2.1 v.2.2.2.2.2.1 v.2.2.2.2.2.2.1 v.2.2.2.2.2.2.2.1 v.2.2.2.2.2.2.2.2.1 v.2.2.2.2.2.2.2.2.2.1 v.2.2.2.2.2.2.2.2.2.2.1 v.2.2.2.2.2.2.2.2.2.2.2.1 v.2.2.2.2.2.2.2.2.2.2.2.2.1 v.2.2.2.2.2.2.2.2.2.2.2.2.2.1 v.2.2.2.2.2.2.2.2.2.2.2.2.2.2.1 v.2.2.2.2.2.2.2.2.2.2.2.2.2.2.2.1 v.2.2.2.2.2.2.2.2.2.2.2.2.2.2.2.2.1 v.2.2.2.2.2.2.2.2.2.2.2.2.2.2.2.2.2.1 v.2.2.2.2.2.2.2.2.2.2.2.2.2.2.2.2.2.2.1 v.2.2.2.2.2.2.2.2.2.2.2.2.2.2.2.2.2.2.2.1 v.2.2.2.2.2.2.2.2.2.2.2.2.2.2.2.2.2.2.2.2.1 v.2.2.2.2.2.2.2.2.2.2.2.2.2.2.2.2.2.2.2.2.2.1 v.2.2.2.2.2.2.2.2.2.2.2.2.2.2.2.2.2.2.2.2.2.2.1 v.2.2.2.2.2.2.2.2.2.2.2.2.2.2.2.2.2.2.2.2.2.2.2
@[irreducible] noncomputable def v0 : V := @Classical.epsilon V ⟨(aW, PySem.Challenge.rw_rs0108_01.row.prog, [], fun _ => none, fun _ => none, fun _ => none, 0, 0, 0, 0, 0, 0, 0, 0, { cls := .none, data := .cell none }, { cls := .none, data := .cell none }, { cls := .none, data := .cell none }, 0, [], [], 0, 0, {}, {})⟩ fun v => ¬ P v
noncomputable def w : World := v0.1
noncomputable def p : Program := v0.2.1
noncomputable def loose : List Str := v0.2.2.1
noncomputable def mean : ExcName → Option Value := v0.2.2.2.1
noncomputable def mg : Str → Option Value := v0.2.2.2.2.1
noncomputable def mb : Str → Option Value := v0.2.2.2.2.2.1
noncomputable def n : Nat := v0.2.2.2.2.2.2.1
noncomputable def nn : Nat := v0.2.2.2.2.2.2.2.1
noncomputable def D : Addr := v0.2.2.2.2.2.2.2.2.1
noncomputable def ca : Addr := v0.2.2.2.2.2.2.2.2.2.1
noncomputable def ci : Addr := v0.2.2.2.2.2.2.2.2.2.2.1
noncomputable def cn : Addr := v0.2.2.2.2.2.2.2.2.2.2.2.1
noncomputable def f : Addr := v0.2.2.2.2.2.2.2.2.2.2.2.2.1
noncomputable def c' : Addr := v0.2.2.2.2.2.2.2.2.2.2.2.2.2.1
noncomputable def oa : Obj := v0.2.2.2.2.2.2.2.2.2.2.2.2.2.2.1
noncomputable def oi : Obj := v0.2.2.2.2.2.2.2.2.2.2.2.2.2.2.2.1
noncomputable def on : Obj := v0.2.2.2.2.2.2.2.2.2.2.2.2.2.2.2.2.1
noncomputable def tn : Tok := v0.2.2.2.2.2.2.2.2.2.2.2.2.2.2.2.2.2.1
noncomputable def vs : List Value := v0.2.2.2.2.2.2.2.2.2.2.2.2.2.2.2.2.2.2.1
noncomputable def es : List Nat := v0.2.2.2.2.2.2.2.2.2.2.2.2.2.2.2.2.2.2.2.1
noncomputable def C1 : Addr := v0.2.2.2.2.2.2.2.2.2.2.2.2.2.2.2.2.2.2.2.2.1
noncomputable def C2 : Addr := v0.2.2.2.2.2.2.2.2.2.2.2.2.2.2.2.2.2.2.2.2.2.1
noncomputable def hC : Heap := v0.2.2.2.2.2.2.2.2.2.2.2.2.2.2.2.2.2.2.2.2.2.2.1
noncomputable def G₀ : Heap := v0.2.2.2.2.2.2.2.2.2.2.2.2.2.2.2.2.2.2.2.2.2.2.2
set_option maxHeartbeats 8000000 in
theorem main (qual nm ql nmi nmi2 : Str) (params ps : Arguments) (body : List Stmt) (scope sc : Scope) (doc pm ctv oc dV kV doc0 pm0 cdv ct : Value) (od an : Option Addr) (osl : Array (Option Value)) (st1 : Stmt) (posi : Pos) (ds0 : List Expr) (Cd : CodeHd hC C1 C2) (hK : (hd.heap_39 w.params).lookup 80 = some ⟨oc, od, .func (fnOf nm ql ps [.FunctionDef nmi params body ds0 none [] scope none nmi2 posi, st1] sc dV kV doc0 pm0 an cdv ct), osl⟩) (da : oa.data = .cell (some (.ref D))) (di : oi.data = .cell (some (.ref f))) (dn : on.data = .cell (some (.int n tn))) (X : (hd.heap_39 w.params).In G₀) (T : Top p loose mean mg mb G₀) (g1 : ∀ a ∈ [f, D, ci, ca, cn], G₀.get? a = none) (hn : n ≤ 5000) (hi : IntsAre vs (natsI es)) (hes : ∀ e ∈ es, e < 2 ^ n) (hel : es.length ≤ 1000) :
    ∀ k, k ≤ 20 → InnerD w n f es (fun s => InnerAt G₀ D ca ci cn f c' oa oi on (fnMade (Str.ofString "inner") qual params body scope [(Str.ofString "n", cn), (Str.ofString "inner", ci), (Str.ofString "digits", ca)] doc pm c' ctv) qual s vs nn) k := by
  w_top off
  unfold InnerD
  revert hK X
  k_fill
  intro hK X
  refine look_parts hK (by k_is) ?_
  intro _ hB _
  refine def_parts hB ?_
  rintro rfl rfl rfl
  clear hB
  show ∀ k, k ≤ 20 → InnerD w n f es _ k
  intro k
  induction k with
  | zero =>
    intro _
    unfold InnerD
    intro A s L R tL tR h1 h2
    exfalso; lia
  | succ k ih =>
    intro hk20
    have ih2 := ih (by lia)
    unfold InnerD
    intro A s L R tL tR h1 h2 h3 hG hroom hh
    clear ih hK
    obtain ⟨lim, gD, ga, gi, gn, gf, gc⟩ := hG
    have lim0 := T.nolimit.keeps lim
    refine enterN (binds := [(Str.ofString "L", .int L tL), (Str.ofString "R", .int R tR)]) gf (five gf gD gi ga gn) lim0 (.head _) gc (by lia) rfl rfl ?_ (by decide) rfl rfl rfl
    intro h₁ F hk N
    have gc' : (hideAll s.heap [f, D, ci, ca, cn]).CodeRec (.ref c') qual := codeRec_hide gc (allC (noFields gf nofun) (allC (noFields gD nofun) (allC (noFields gi (by rw [di]; nofun)) (allC (noFields ga (by rw [da]; nofun)) (allC (noFields gn (by rw [dn]; nofun)) allN)))))
    have lim' := hide_keep lim g1
    replace X := X.keeps lim'
    replace T := T.keeps lim'
    change Fr (hideAll s.heap [f, D, ci, ca, cn]) _ _ _ at F
    change News (hideAll s.heap [f, D, ci, ca, cn]) _ _ _ at N
    have hfn : ∃ o, s.heap.get? f = some o ∧ IsFn o := ⟨_, gf, _, _, _, _, rfl⟩
    generalize fnMade (Str.ofString "inner") qual _ _ _ _ _ _ _ _ = fo at N gf ih2
    replace hfn : IsFn fo := by
      obtain ⟨o, e, ho⟩ := hfn
      rw [gf] at e; cases e; exact ho
    have hkk : R - L ≤ 20 := by lia
    clear hk gc lim lim0 g1
    by_cases hone : L + 1 = R
    · have hLd : L < es.length := by lia
      have hLm : L < (natsI es).length := by rw [natsI_len]; exact hLd
      have hone' : ((L + 1 : Nat) : Int) = (R : Int) := by lia
      have hv : valD n (cutD es L R) = es.getD L 0 := by rw [← hone, cutD_one hLd]; simp [valD]
      rw [hv]
      clear h2 hes
      refine wp_cut 1 _ ?_
      dsimp only [List.take, List.drop]
      repeat' (first | ((with_reducible show wpAny _ _ (subscriptTail _ _ (Value.ref _) (Value.int _ _)) _ _ _); refine ksa_sub ‹_› (.tail _ (.head _)) ‹_› (by lia) (by lia) (by lia) ?_ (by with_unfolding_all rfl); intro _) | ((with_reducible show FnAt _ _); exact fnAt_of ‹_› (by k_mem) ‹_›) | ((with_reducible show wpAny _ _ (callWith _ (.ref _) _ _ _) _ _ _); refine callWith_F (fnAt_of ‹_› (by k_mem) ‹_›) ?_) | ((with_reducible show wpAny _ _ (binaryOp _ (.int _ _) (.int _ _)) _ _ _); first | with_reducible (refine mulN ?_ ‹_› ‹_›) | with_reducible (refine subN ‹_› ?_) | with_reducible (refine shlN ‹_› ?_) | with_reducible (first | refine rshN1 ?_ | refine rshN ?_) | with_reducible (first | refine add1N ?_ | refine addN ?_)) | walk1)
      rotate_left
      · exfalso; lia
      rename Fr _ _ _ _ => F'
      rename News _ _ _ _ => N'
      rw [Int.toNat_natCast, natsI_get]
      exact retV_of gf gD gi ga gn F' N'
    · have a1 : L < (L + R) / 2 := by lia
      have a2 : (L + R) / 2 ≤ L + k := by lia
      have a3 : (L + R) / 2 ≤ es.length := by lia
      have a4 : (L + R) / 2 < R := by lia
      have a5 : R ≤ (L + R) / 2 + k := by lia
      have a12 : L ≤ (L + R) / 2 := by lia
      have a9 : bitsN ((L + R) / 2 - L) ≤ 2 ^ 20 := Nat.le_trans (bitsN_le.mpr (Nat.lt_two_pow_self (n := _))) (by lia)
      have hbn : bitsN n ≤ 2 ^ 20 := Nat.le_trans (bitsN_le.mpr (Nat.lt_two_pow_self (n := n))) (by lia)
      have a11 : ((L + R) / 2 - L) * n ≤ 20 * 5000 := Nat.mul_le_mul (by lia) hn
      have a10 : bitsN (valD n (cutD es ((L + R) / 2) R)) + ((L + R) / 2 - L) * n ≤ 2 ^ 27 := by
        have h5 := valD_lt (n := n) (cutD es ((L + R) / 2) R) fun e he => hes e (cutD_mem he)
        rw [cutD_len h3] at h5
        have h6 := bitsN_le.mpr h5
        have h7 : n * (R - (L + R) / 2) ≤ 5000 * 20 := Nat.mul_le_mul hn (by lia)
        lia
      have hv : valD n (cutD es ((L + R) / 2) R) * 2 ^ (((L + R) / 2 - L) * n) + valD n (cutD es L ((L + R) / 2)) = valD n (cutD es L R) := by
        rw [cutD_app (L := L) a12 (Nat.le_of_lt a4) h3, valD_app, cutD_len a3, Nat.mul_comm n, Nat.mul_comm (2 ^ _), Nat.add_comm]
      have hr2 : A.depth + 1 + k + 5 < recursionLimit := by lia
      clear hes hkk
      have hone' : ((L + 1 : Nat) : Int) ≠ (R : Int) := by lia
      refine wp_cut 1 _ ?_
      dsimp only [List.take, List.drop]
      repeat' (first | ((with_reducible show wpAny _ _ (subscriptTail _ _ (Value.ref _) (Value.int _ _)) _ _ _); refine ksa_sub ‹_› (.tail _ (.head _)) ‹_› (by lia) (by lia) (by lia) ?_ (by with_unfolding_all rfl); intro _) | ((with_reducible show FnAt _ _); exact fnAt_of ‹_› (by k_mem) ‹_›) | ((with_reducible show wpAny _ _ (callWith _ (.ref _) _ _ _) _ _ _); refine callWith_F (fnAt_of ‹_› (by k_mem) ‹_›) ?_) | ((with_reducible show wpAny _ _ (binaryOp _ (.int _ _) (.int _ _)) _ _ _); first | with_reducible (refine mulN ?_ ‹_› ‹_›) | with_reducible (refine subN ‹_› ?_) | with_reducible (refine shlN ‹_› ?_) | with_reducible (first | refine rshN1 ?_ | refine rshN ?_) | with_reducible (first | refine add1N ?_ | refine addN ?_)) | walk1)
      · exfalso; lia
      refine .mk ?_
      repeat' (first | ((with_reducible show wpAny _ _ (subscriptTail _ _ (Value.ref _) (Value.int _ _)) _ _ _); refine ksa_sub ‹_› (.tail _ (.head _)) ‹_› (by lia) (by lia) (by lia) ?_ (by with_unfolding_all rfl); intro _) | ((with_reducible show FnAt _ _); exact fnAt_of ‹_› (by k_mem) ‹_›) | ((with_reducible show wpAny _ _ (callWith _ (.ref _) _ _ _) _ _ _); refine callWith_F (fnAt_of ‹_› (by k_mem) ‹_›) ?_) | ((with_reducible show wpAny _ _ (binaryOp _ (.int _ _) (.int _ _)) _ _ _); first | with_reducible (refine mulN ?_ ‹_› ‹_›) | with_reducible (refine subN ‹_› ?_) | with_reducible (refine shlN ‹_› ?_) | with_reducible (first | refine rshN1 ?_ | refine rshN ?_) | with_reducible (first | refine add1N ?_ | refine addN ?_)) | walk1)
      rename Fr _ _ _ _ => F'
      rename News _ _ _ _ => N'
      refine use_innerD ih2 F' N' a4 a5 h3 (InnerAt.of rfl F' N' lim' gc') hr2 hh ?_
      intro h5 tk5 t5 F5 N5
      clear F' N'
      repeat' (first | ((with_reducible show wpAny _ _ (subscriptTail _ _ (Value.ref _) (Value.int _ _)) _ _ _); refine ksa_sub ‹_› (.tail _ (.head _)) ‹_› (by lia) (by lia) (by lia) ?_ (by with_unfolding_all rfl); intro _) | ((with_reducible show FnAt _ _); exact fnAt_of ‹_› (by k_mem) ‹_›) | ((with_reducible show wpAny _ _ (callWith _ (.ref _) _ _ _) _ _ _); refine callWith_F (fnAt_of ‹_› (by k_mem) ‹_›) ?_) | ((with_reducible show wpAny _ _ (binaryOp _ (.int _ _) (.int _ _)) _ _ _); first | with_reducible (refine mulN ?_ ‹_› ‹_›) | with_reducible (refine subN ‹_› ?_) | with_reducible (refine shlN ‹_› ?_) | with_reducible (first | refine rshN1 ?_ | refine rshN ?_) | with_reducible (first | refine add1N ?_ | refine addN ?_)) | walk1)
      refine use_innerD ih2 F5 N5 a1 a2 a3 (InnerAt.of rfl F5 N5 lim' gc') hr2 hh ?_
      intro h6 tk6 t6 F6 N6
      clear F5 N5
      repeat' (first | ((with_reducible show wpAny _ _ (subscriptTail _ _ (Value.ref _) (Value.int _ _)) _ _ _); refine ksa_sub ‹_› (.tail _ (.head _)) ‹_› (by lia) (by lia) (by lia) ?_ (by with_unfolding_all rfl); intro _) | ((with_reducible show FnAt _ _); exact fnAt_of ‹_› (by k_mem) ‹_›) | ((with_reducible show wpAny _ _ (callWith _ (.ref _) _ _ _) _ _ _); refine callWith_F (fnAt_of ‹_› (by k_mem) ‹_›) ?_) | ((with_reducible show wpAny _ _ (binaryOp _ (.int _ _) (.int _ _)) _ _ _); first | with_reducible (refine mulN ?_ ‹_› ‹_›) | with_reducible (refine subN ‹_› ?_) | with_reducible (refine shlN ‹_› ?_) | with_reducible (first | refine rshN1 ?_ | refine rshN ?_) | with_reducible (first | refine add1N ?_ | refine addN ?_)) | walk1)
      rw [hv]
      exact retV_of gf gD gi ga gn F6 N6
theorem all (v : V) : P v := byEps (v0 := v0) (by unfold v0; rfl) main v
end kinner_d
theorem inner_d {w : World} {p : Program} {loose : List Str} {mean : ExcName → Option Value} {mg : Str → Option Value} {mb : Str → Option Value} {n nn : Nat} {D ca ci cn f c' : Addr} {oa oi on : Obj} {tn : Tok} {vs : List Value} {es : List Nat} {qual nm ql nmi nmi2 : Str} {params ps : Arguments} {body : List Stmt} {scope sc : Scope} {doc pm ctv oc dV kV doc0 pm0 cdv ct : Value} {od an : Option Addr} {osl : Array (Option Value)} {st1 : Stmt} {posi : Pos} {ds0 : List Expr} {C1 C2 : Addr} {hC G₀ : Heap} (Cd : CodeHd hC C1 C2) (hK : (hd.heap_39 w.params).lookup 80 = some ⟨oc, od, .func (fnOf nm ql ps [.FunctionDef nmi params body ds0 none [] scope none nmi2 posi, st1] sc dV kV doc0 pm0 an cdv ct), osl⟩) (da : oa.data = .cell (some (.ref D))) (di : oi.data = .cell (some (.ref f))) (dn : on.data = .cell (some (.int n tn))) (X : (hd.heap_39 w.params).In G₀) (T : Top p loose mean mg mb G₀) (g1 : ∀ a ∈ [f, D, ci, ca, cn], G₀.get? a = none) (hn : n ≤ 5000) (hi : IntsAre vs (natsI es)) (hes : ∀ e ∈ es, e < 2 ^ n) (hel : es.length ≤ 1000) :
    ∀ k, k ≤ 20 → InnerD w n f es (fun s => InnerAt G₀ D ca ci cn f c' oa oi on (fnMade (Str.ofString "inner") qual params body scope [(Str.ofString "n", cn), (Str.ofString "inner", ci), (Str.ofString "digits", ca)] doc pm c' ctv) qual s vs nn) k := kinner_d.all (w, p, loose, mean, mg, mb, n, nn, D, ca, ci, cn, f, c', oa, oi, on, tn, vs, es, C1, C2, hC, G₀) qual nm ql nmi nmi2 params ps body scope sc doc pm ctv oc dV kV doc0 pm0 cdv ct od an osl st1 posi ds0 Cd hK da di dn X T g1 hn hi hes hel
end
end Mine
end
-- part PlQ
section
open PySem PySem.W PySem.Calls PyProof.Rows
namespace Mine
/-- what the division tells -/
theorem dmp_val {N rd f e x tc op : Nat} (h2 : x = tc + N * op) (ht : tc < N) (he : e < f) :
    ((x + N * rd) * f + e) / (N * f) = op + rd ∧ ((x + N * rd) * f + e) % (N * f) = tc * f + e := by
  have h1 : tc * f + e < N * f := by
    have := Nat.mul_le_mul_right f (Nat.succ_le_of_lt ht)
    rw [Nat.succ_mul] at this
    lia
  have e1 : (x + N * rd) * f + e = tc * f + e + N * f * (op + rd) := by
    subst h2
    rw [Nat.mul_add (N * f), Nat.add_mul, Nat.add_mul, Nat.mul_right_comm N op f, Nat.mul_right_comm N rd f]
    lia
  rw [e1]
  exact ⟨by rw [Nat.add_mul_div_left _ _ (by lia), Nat.div_eq_of_lt h1, Nat.zero_add], by rw [Nat.add_mul_mod_self_left, Nat.mod_eq_of_lt h1]⟩
end Mine
end
-- part SortR
section
open PySem PySem.W PySem.Calls PyProof.Rows
namespace Mine
/-- a range's items, as ints -/
theorem ints_of_items {acc : Array Value} {n : Nat} (x : ItemsOf (fun (i : Nat) v => ∃ t, v = Value.int (0 + (i : Int) * 1) t) acc n) : IntsAre acc.toList ((List.range n).map fun (i : Nat) => (i : Int)) := by
  have at_i : ∀ i (h : i < acc.toList.length), ∃ t, acc.toList[i] = Value.int (i : Int) t := fun i h => by
    obtain ⟨t, e⟩ := x.2 i acc.toList[i] (by rw [← Array.getElem?_toList, List.getElem?_eq_getElem h])
    exact ⟨t, e.trans (by rw [Int.mul_one, Int.zero_add])⟩
  have nums : acc.toList.map numOf = (List.range n).map fun (i : Nat) => (i : Int) := by
    refine List.ext_getElem (by rw [List.length_map, List.length_map, List.length_range, Array.length_toList, x.1]) fun i h1 h2 => ?_
    obtain ⟨t, e⟩ := at_i i (by rw [List.length_map] at h1; exact h1)
    rw [List.getElem_map, List.getElem_map, List.getElem_range, e]
    rfl
  rw [← nums]
  refine intsAre_map _ fun v hv => ?_
  obtain ⟨i, h, rfl⟩ := List.mem_iff_getElem.mp hv
  exact ⟨_, at_i i h⟩
section
variable {prog : Program} {w : World} {A : Around} {s : Shared} {E : Value → Shared → Prop} {R : List Value → Shared → Prop}
/-- the items of a range, gathered -/
theorem gather_range {l : Addr} {n : Nat} {tx ty tz : Tok} (hh : A.handled = none) (hl : IsRange s.heap l 0 (n : Int) 1 tx ty tz) (hsm : Builtin.Range.small 0 (n : Int) 1 = true) (hsz : Builtin.Range.rangeSize 0 (n : Int) 1 = (n : Int)) (hn : n ≤ 9)
    (h : ∀ (h' : Heap) (tk : Nat) (vs : List Value), (∀ b o, s.heap.get? b = some o → h'.get? b = some o) → IntsAre vs ((List.range n).map fun (i : Nat) => (i : Int)) → R vs { s with heap := h', toks := tk }) :
    wpAny (model prog w) A (collect (.ref l)) R E s := by
  have put : (s.heap.push { cls := .type "list", data := .seq #[] }).get? s.heap.objs.size = some { cls := .type "list", data := .seq #[] } := Heap.get?_push_size _ rfl
  have run : ∀ T : Result → Shared → Prop, (∀ h' tk acc c, (∀ b o, b ≠ s.heap.objs.size → (s.heap.push { cls := .type "list", data := .seq #[] }).get? b = some o → h'.get? b = some o) →
      h'.get? s.heap.objs.size = some { cls := .type "list", data := .seq acc c } → ItemsOf (fun (i : Nat) v => ∃ t, v = Value.int (0 + (i : Int) * 1) t) acc n → T (.ok (.ret (.ref s.heap.objs.size))) { s with heap := h', toks := tk }) →
      codeAny (model prog w) A (.builtin "list.__iadd__" ⟨[.ref s.heap.objs.size, .ref l], []⟩) T { s with heap := s.heap.push { cls := .type "list", data := .seq #[] } } := fun T hT => by
    refine codeAny_builtin entry_list_iadd' ?_
    rw [Around.under_plainId PySem.F.plain_list_iadd]
    exact wpAny_extend_range (R := T) (s := { s with heap := s.heap.push { cls := .type "list", data := .seq #[] } }) hh (Heap.get?_push_of_some _ hl) hsm hsz (by omega) _ (.ref s.heap.objs.size) 0 put hT
  unfold collect
  refine wpAny_bind (wpAny_runValue (codeAny_builtin entry_proto_collect' ?_))
  rw [Around.under_plainId PySem.F.plain_proto_collect]
  show wpAny _ A.in1 (newList [] >>= fun z => again (.builtin "list.__iadd__" ⟨[z, .ref l], []⟩)) _ _ s
  refine wpAny_bind (wpAny_newObj_type (wpAny_pure ⟨plainId_quiet PySem.F.plain_list_iadd _, run _ fun h' tk acc c keep made items => ?_⟩))
  exact wpAny_bind (wpAny_load made (wpAny_pure (h h' tk acc.toList (fun b o e => keep b o (Nat.ne_of_lt (Heap.lt_size e)) (Heap.get?_push_of_some _ e)) (ints_of_items items))))
end
section
variable {prog : Program} {w : World} {A : Around} {s : Shared} {E : Value → Shared → Prop}
/-- a list beside its own images -/
theorem zip_images {α β : Type} (f : α → β) : ∀ l : List α, (l.map f).zip l = l.map fun v => (f v, v)
  | [] => rfl
  | v :: r => congrArg ((f v, v) :: ·) (zip_images f r)
/-- what sorting by a key gives, on ints -/
theorem sorted_ints_by {vs out : List Value} {ns : List Int} (g : Int → Int) (hi : IntsAre vs ns) (ko : KskOut false (ns.map g) vs out) : ∃ ms : List Int, IntsAre out ms ∧ ms.Perm ns ∧ ms.Pairwise (fun x y => g x ≤ g y) := by
  obtain ⟨ps, perm, rfl, inOrder⟩ := ko
  have z : (ns.map g).zip vs = vs.map fun v => (g (numOf v), v) := by rw [← zip_images, ← hi.nums, List.map_map]; rfl
  rw [z] at perm
  have form : ∀ p ∈ ps, g (numOf p.2) = p.1 ∧ p.2 ∈ vs := fun p h => by
    obtain ⟨v, hv, e⟩ := List.mem_map.mp (perm.subset h)
    subst e
    exact ⟨rfl, hv⟩
  refine ⟨(ps.map Prod.snd).map numOf, intsAre_map _ fun v hv => ?_, ?_, List.pairwise_map.mpr (List.pairwise_map.mpr (inOrder.imp_of_mem fun {p q} hp hq le => ?_))⟩
  · obtain ⟨p, hp, e⟩ := List.mem_map.mp hv
    exact e ▸ hi.all _ (form p hp).2
  · refine ((perm.map Prod.snd).map numOf).trans (.of_eq ?_)
    rw [List.map_map, List.map_map]
    exact hi.nums
  · have e1 := (form p hp).1
    have e2 := (form q hq).1
    rw [e1, e2]
    exact le
/-- sorted over a range, by a key -/
theorem sorted_range {h₀ : Heap} {L l : Addr} {m : Str → Option Value} {news : List (Addr × Obj)} {n : Nat} {tx ty tz : Tok} {f : Value} {kw : List (Str × Value)} {Q : Value → Shared → Prop} (gk : Int → Int) (hh : A.handled = none) (F : Fr h₀ L s.heap m) (N : News h₀ L s.heap news) (hl : IsRange s.heap l 0 (n : Int) 1 tx ty tz) (hsm : Builtin.Range.small 0 (n : Int) 1 = true) (hsz : Builtin.Range.rangeSize 0 (n : Int) 1 = (n : Int)) (hn : n ≤ 9)
    (ha1 : argsOk "sorted" ⟨[.ref l], kw⟩) (ha2 : ∀ x, argsOk "list.sort" ⟨[.ref x], kw⟩) (ht : ∀ x, Builtin.«list.sort» ⟨[.ref x], kw⟩ = ksk_tree x f false)
    (turn : ∀ (i : Nat) (t : Tok) (h : Heap) (tk : Nat) (own : List (Addr × Obj)), i < n → Fr h₀ L h m → News h₀ L h (news ++ own) →
      wpAny (model prog w) A.in1.in1 (call f [.int (i : Int) t]) (KskEnd h₀ L m (news ++ own) (gk i) { s with heap := h, toks := tk }) (fun _ _ => False) { s with heap := h, toks := tk })
    (h : ∀ D h' tk out ms c, Fr h₀ L h' m → News h₀ L h' ((D, listOf (List.toArray out) c) :: news) → IntsAre out ms → ms.Perm ((List.range n).map fun (i : Nat) => (i : Int)) → ms.Pairwise (fun x y => gk x ≤ gk y) → Q (.ref D) { s with heap := h', toks := tk }) :
    wpAny (model prog w) A (call (.builtin "sorted") [.ref l] kw) Q E s := by
  refine call_function_entry_kw kind_sorted plain_sorted entry_sorted ha1 ?_
  unfold Builtin.«sorted»
  refine wpAny_bind (m := checkCount "sorted" 1 1 _) (wpAny_pure ?_)
  refine wpAny_bind (gather_range (A := A.in1) hh hl hsm hsz hn fun h2 tk2 vs hk2 hi => ?_)
  have hlen : vs.length = n := by rw [hi.length]; simp
  refine wpAny_bind (wpAny_newList ?_ (by rw [sizeLine_eq]; omega))
  have F2 := F.kept hk2
  have N2 := N.grown hk2
  have hoL : (h2.push (seqObj "list" vs.toArray 0)).get? h2.objs.size = some (seqObj "list" vs.toArray 0) := Heap.get?_push_size _ rfl
  have keep : ∀ b o, h2.get? b = some o → (h2.push (seqObj "list" vs.toArray 0)).get? b = some o := fun b o q => Heap.get?_push_of_some _ q
  have hL : L < h2.objs.size := F2.ns.lt
  show wpAny _ _ _ _ _ { s with heap := h2.push (seqObj "list" vs.toArray 0), toks := tk2 }
  refine wpAny_bind (wpAny_holding (wpAny_call_entry_kw slot_list_sort ⟨_, hoL, rfl⟩ entry_list_sort ?body (ha2 _)))
  case body =>
    have ht' := ht h2.objs.size
    show wpAny (model prog w) A.in1.in1 (Builtin.«list.sort» ⟨[.ref h2.objs.size], kw⟩) _ _ _
    rw [ht']
    refine ksk_sort (kz := ((List.range n).map fun (i : Nat) => (i : Int)).map gk) (s := { s with heap := h2.push (seqObj "list" vs.toArray 0), toks := tk2 })
      (F2.kept keep) (N2.grown keep) hoL (Nat.ne_of_gt hL) (Heap.get?_none_of_le (Nat.le_trans F2.above (Nat.le_of_lt hL)))
      (fun p hp => Nat.ne_of_lt (Heap.lt_size (N2 p hp).1)) (by rw [List.length_map, List.length_map, List.length_range, hlen]) (by omega) (fun i v k hv hk h tk own F' N' => ?_) fun h' tk out c F' N' k' => ⟨_, rfl, ?_⟩
    · rw [List.getElem?_map, List.getElem?_map] at hk
      obtain ⟨z, hz, rfl⟩ := Option.map_eq_some_iff.mp hk
      obtain ⟨j, hj, rfl⟩ := Option.map_eq_some_iff.mp hz
      have hjr := List.getElem?_eq_some_iff.mp hj
      obtain ⟨hjl, hje⟩ := hjr
      rw [List.length_range] at hjl
      rw [List.getElem_range] at hje
      subst hje
      obtain ⟨t, e⟩ := hi.get i (i : Int) (by rw [List.getElem?_map, List.getElem?_range hjl]; rfl)
      rw [e] at hv
      cases hv
      exact turn i t h tk own hjl F' N'
    · obtain ⟨ms, m1, m2, m3⟩ := sorted_ints_by gk hi k'
      exact wpAny_pure ⟨_, rfl, h _ h' tk out.toList ms c F' (by rw [Array.toArray_toList]; exact N') m1 m2 m3⟩
/-- enter a lambda that was made on the way, by its own things in the ledger -/
theorem enterL {N : List (Addr × Obj)} {R : Result → Shared → Prop} {name qual : Str} {params : Arguments} {body : Expr} {scope : Scope} {clos : List (Str × Addr)} {pm : Value} {c' : Addr} {ctv : Value} {f : Addr} {args : Args} {binds : List (Str × Value)}
    (hN : ∀ q ∈ N, s.heap.get? q.1 = some q.2) (hlim : s.heap.NoLimit)
    (ho : (f, kla_obj name qual params body scope clos pm c' ctv) ∈ N) (hcd : s.heap.CodeRec (.ref c') qual) (hroom : A.depth < recursionLimit)
    (hbind : bindArgs (kla_fn name qual params body scope clos pm (.ref c') ctv) args = pure binds) (hloc : (binds.all fun x => decide (scope.names.lookup x.1 = some .local)) = true)
    (h : ∀ h₁, Fr (hideAll s.heap (N.map (·.1))) s.heap.objs.size h₁ (fun y => binds.reverse.lookup y) → (∀ b o, s.heap.get? b = some o → h₁.get? b = some o) → News (hideAll s.heap (N.map (·.1))) s.heap.objs.size h₁ N →
      wpAny (model prog w) (A.deeper (envX qual scope s.heap.objs.size f (.ref c') clos)) (eval body (envX qual scope s.heap.objs.size f (.ref c') clos))
        (fun v s' => R (.ok (.ret v)) s') (fun _ _ => False)
        { s with heap := h₁, toks := s.toks + binds.length })
    (hcell : ∀ x ∈ scope.names, x.2 ≠ .cell) (hco : scope.isCoroutine = false) (hgen : scope.isGenerator = false) (hk : scope.kind = .function) :
    codeAny (model prog w) A (.call (.ref f) args) R s := by
  refine kla_callFunE hroom (hN _ ho) rfl hco hgen rfl hcd ?_
  rw [hbind]
  refine wpAny_pure (wpAny_newFunctionEnv hcell (locs hloc) (fun h₁ hns hsb => ?_) hk)
  have hk₁ : ∀ b o, s.heap.get? b = some o → h₁.get? b = some o := fun b o e => hsb.extBut b o (Nat.ne_of_lt (Heap.lt_size e)) (Heap.get?_push_of_some _ e)
  refine ⟨hlim.keeps hk₁, ?_⟩
  show codeAny _ _ (.expr body (envX qual scope s.heap.objs.size f (.ref c') clos)) _ _
  refine kla_codeExpr (wpAny_mono (h h₁ ⟨hns, fun b o e => hk₁ b o (of_hideAll _ e), Nat.le_of_eq (hideAll_size _ _)⟩ hk₁ fun q hq => ?_) (fun v s' hl => hl) fun _ _ y => y.elim)
  exact ⟨hk₁ _ _ (hN q hq), Nat.ne_of_lt (Heap.lt_size (hN q hq)), hideAll_none _ (List.mem_map_of_mem hq)⟩
end
end Mine
end
section
local macro_rules | `(tactic| omega) => `(tactic| lia)
-- part Ring
section
open PySem PySem.W PySem.Calls PyProof.Rows
namespace Mine
theorem iterList {prog : Program} {w : World} {A : Around} {s : Shared} {h₀ : Heap} {L l : Addr} {its : Array Value} {m : Str → Option Value} {news : List (Addr × Obj)} {E : Value → Shared → Prop} {Q : Value → Shared → Prop} (F : Fr h₀ L s.heap m) (N : News h₀ L s.heap news) (hl : s.heap.IsList l its)
    (h : ∀ h' I, Fr h₀ L h' m → News h₀ L h' news → h'.IsListIter I l 0 ∧ h'.IsList l its → L < I → l < I → (∀ q ∈ news, q.1 < I) → h₀.get? I = none → Q (.ref I) { s with heap := h' }) :
    wpAny (model prog w) A (pyIter (.ref l)) Q E s := by
  have up : ∀ b o, s.heap.get? b = some o → (s.heap.push { cls := .type "list_iterator", data := .fields #[.ref l, .int 0 0] }).get? b = some o := fun b o e => Heap.get?_push_of_some _ e
  obtain ⟨o, ho, r⟩ := id hl
  refine wpAny_pyIter_list hl (h _ _ (Fr.keeps F up) (News.grown N up) ⟨⟨_, Heap.get?_push_size _ rfl, rfl, rfl⟩, hl.push _⟩ F.ns.lt (Heap.lt_size ho) (fun q hq => Heap.lt_size (N q hq).1) ?_)
  cases q : h₀.get? s.heap.objs.size with
  | none => rfl
  | some o => exact absurd (Nat.lt_of_lt_of_le (Heap.lt_size q) (Nat.le_trans F.above (Nat.le_of_lt F.ns.lt))) (Nat.lt_irrefl _)

/-- a for loop over a list -/
theorem forList {prog : Program} {w : World} {A : Around} {s : Shared} {R : Result → Shared → Prop} {bd : List Stmt} {env : Env} {x : Str} {p1 : Pos} {h₀ : Heap} {L l : Addr} {ws : List Value} {m : Str → Option Value} {news : List (Addr × Obj)} {E : Value → Shared → Prop} (Gs : Array GenState → Prop)
    (hh : A.handled = none) (hLe : env.locals = L) (hx : env.kindOf x = some .local) (hp : (env.scope.kind == .class || (env.scope.kind == .module && env.locals != env.globals)) = false)
    (F : Fr h₀ L s.heap m) (N : News h₀ L s.heap news) (hl : s.heap.IsList l ws.toArray) (hLl : L ≠ l) (hG : Gs s.gens)
    (J : Nat → (Str → Option Value) → List (Addr × Obj) → Prop) (h0 : J 0 m news)
    (step : ∀ I i v m₁ news₁ h tk gs own, Gs gs → ws[i]? = some v → J i m₁ news₁ → (∀ q ∈ news₁, q.1 ≠ I) → (∀ q ∈ own, q.1 = I ∨ q.1 = l) →
      Fr h₀ L h (fun y => if y = x then some v else m₁ y) → News h₀ L h (news₁ ++ own) →
      wpAny (model prog w) A (execs bd env) (AfterW h₀ L [I] own Gs { s with heap := h, toks := tk, gens := gs } (J (i + 1)) R) (fun _ _ => False) { s with heap := h, toks := tk, gens := gs })
    (hR : ∀ h tk gs m' news', Gs gs → Fr h₀ L h m' → News h₀ L h news' → J ws.length m' news' → R (.ok .next) { s with heap := h, toks := tk, gens := gs }) :
    wpAny (model prog w) A (pyIter (.ref l)) (fun it s₂ => codeAny (model prog w) A (.forLoop (.Name x p1) it bd [] env) R s₂) E s := by
  refine iterList F N hl fun h3 I F3 N3 st hLI hlI hnI hI0 => ?_
  refine forW (St := fun i h => h.IsListIter I l i ∧ h.IsList l ws.toArray) Gs (Walks.list hh I l (Nat.ne_of_lt hlI) ws.toArray) hLe hx hp (fun q => ?_) (fun b hb => ?_) st F3 N3 (fun q hq hb => ?_) hG J h0 ?_ ?_
  · rcases List.mem_cons.mp q with q | q
    · exact absurd q (Nat.ne_of_lt hLI)
    · exact hLl (List.mem_singleton.mp q)
  · rw [List.mem_singleton.mp hb]; exact hI0
  · exact absurd (List.mem_singleton.mp hb) (Nat.ne_of_lt (hnI q hq))
  · intro i v m₁ news₁ h tk gs own hg hi hv hJ hn ho F' N'
    exact step I i v m₁ news₁ h tk gs own hg (by simpa using hv) hJ (fun q hq e => hn q hq (by rw [e]; exact .head _)) (fun q hq => by simpa using ho q hq) F' N'
  · intro h tk gs m' news' hg F' N' _ hJ
    exact hR h tk gs m' news' hg F' N' (by simpa using hJ)

noncomputable def ringStep (half : Nat) (r : List Nat) (c : Int) : List Nat := r ++ [if (c.fmod 2 = 1 ∧ r.count 41 < half) ∨ half < r.count 40 then 41 else 40]
theorem ring_len (half : Nat) : ∀ (l : List Int) (r : List Nat), (l.foldl (ringStep half) r).length = r.length + l.length
  | [], r => by simp
  | c :: l, r => by rw [List.foldl_cons, ring_len half l]; simp [ringStep]; omega
theorem cnt_count (c : Nat) : ∀ l : List Nat, PyProof.Rows.cnt c l = (l.count c : Int)
  | [] => rfl
  | a :: l => by
    have ih := cnt_count c l
    unfold PyProof.Rows.cnt at ih ⊢
    have e : (a :: l).count c = (if a = c then 1 else 0) + l.count c := by
      rw [List.count_cons]
      by_cases h : a = c
      · simp [h]; omega
      · simp [h]
    rw [List.map_cons, e]
    have : Spec.countIn (.str ⟨#[c]⟩) (PyData.str ⟨#[a]⟩ :: l.map fun n => PyData.str ⟨#[n]⟩) = (if a = c then 1 else 0) + Spec.countIn (.str ⟨#[c]⟩) (l.map fun n => PyData.str ⟨#[n]⟩) := by
      show (if (⟨#[a]⟩ : Str) == ⟨#[c]⟩ then (1 : Int) else 0) + _ = _
      by_cases h : a = c
      · subst h; simp
      · have : ((⟨#[a]⟩ : Str) == ⟨#[c]⟩) = false := by simp [h]
        rw [this, if_neg h]; rfl
    rw [this, ih]
    split <;> simp
theorem count41 (r : List Nat) : Txt.count (mkS r) (Str.ofString ")") = (r.count 41 : Int) := by
  rw [show Str.ofString ")" = ⟨#[41]⟩ by decide +kernel, count_cnt, cnt_count]
theorem count40 (r : List Nat) : Txt.count (mkS r) (Str.ofString "(") = (r.count 40 : Int) := by
  rw [show Str.ofString "(" = ⟨#[40]⟩ by decide +kernel, count_cnt, cnt_count]
theorem mk_app (r r' : List Nat) : mkS r ++ mkS r' = mkS (r ++ r') := by
  show (⟨r.toArray ++ r'.toArray⟩ : Str) = _
  simp [mkS]
theorem app41 (r : List Nat) : mkS r ++ Str.ofString ")" = mkS (r ++ [41]) := by rw [← mk_app, show Str.ofString ")" = mkS [41] by decide +kernel]
theorem app40 (r : List Nat) : mkS r ++ Str.ofString "(" = mkS (r ++ [40]) := by rw [← mk_app, show Str.ofString "(" = mkS [40] by decide +kernel]
theorem step41 {half : Nat} {r : List Nat} {c : Int} (h : (c.fmod 2 = 1 ∧ r.count 41 < half) ∨ half < r.count 40) : ringStep half r c = r ++ [41] := by unfold ringStep; rw [if_pos h]
theorem step40 {half : Nat} {r : List Nat} {c : Int} (h : ¬ ((c.fmod 2 = 1 ∧ r.count 41 < half) ∨ half < r.count 40)) : ringStep half r c = r ++ [40] := by unfold ringStep; rw [if_neg h]
noncomputable def halfOf (ns : List Int) : Nat := (3 + (ns.getD 9 0).fmod 2).toNat
noncomputable def ringL (ns : List Int) : List Nat := (ns.take (2 * halfOf ns + 1)).foldl (ringStep (halfOf ns)) []

section
variable {w : World} {A : Around} {s : Shared} {p : Program} {loose : List Str} {mean : ExcName → Option Value} {mg mb : Str → Option Value}

end
section
namespace kring_spec
noncomputable abbrev V := (World) × (Around) × (Shared) × (Program) × (List Str) × (ExcName → Option Value) × (Str → Option Value) × (Str → Option Value) × (Addr) × (List Value) × (List Int)
noncomputable def P (v : V) : Prop :=
  (fun (w : World) (A : Around) (s : Shared) (p : Program) (loose : List Str) (mean : ExcName → Option Value) (mg : Str → Option Value) (mb : Str → Option Value) (C : Addr) (vs : List Value) (ns : List Int) =>
  ∀ (hC : s.heap.IsList C vs.toArray) (hi : IntsAre vs ns) (h11 : ns.length = 11) (X : (hd.heap_39 w.params).In s.heap) (T : Top p loose mean mg mb s.heap) (hroom : A.depth + 5 < recursionLimit) (hh : A.handled = none), codeAny (model PySem.Challenge.rw_rs0108_01.row.prog w) A (.call (.ref 130) ⟨[.ref C], []⟩) (Ret s fun v _ => ∃ t', v = .str (mkS (ringL ns)) t') s)
    v.1 v.2.1 v.2.2.1 v.2.2.2.1 v.2.2.2.2.1 v.2.2.2.2.2.1 v.2.2.2.2.2.2.1 v.2.2.2.2.2.2.2.1 v.2.2.2.2.2.2.2.2.1 v.2.2.2.2.2.2.2.2.2.1 v.2.2.2.2.2.2.2.2.2.2
@[irreducible] noncomputable def v0 : V := @Classical.epsilon V ⟨(aW, callerA, {}, PySem.Challenge.rw_rs0108_01.row.prog, [], fun _ => none, fun _ => none, fun _ => none, 0, [], [])⟩ fun v => ¬ P v
noncomputable def w : World := v0.1
noncomputable def A : Around := v0.2.1
noncomputable def s : Shared := v0.2.2.1
noncomputable def p : Program := v0.2.2.2.1
noncomputable def loose : List Str := v0.2.2.2.2.1
noncomputable def mean : ExcName → Option Value := v0.2.2.2.2.2.1
noncomputable def mg : Str → Option Value := v0.2.2.2.2.2.2.1
noncomputable def mb : Str → Option Value := v0.2.2.2.2.2.2.2.1
noncomputable def C : Addr := v0.2.2.2.2.2.2.2.2.1
noncomputable def vs : List Value := v0.2.2.2.2.2.2.2.2.2.1
noncomputable def ns : List Int := v0.2.2.2.2.2.2.2.2.2.2
set_option maxHeartbeats 8000000 in
theorem main (hC : s.heap.IsList C vs.toArray) (hi : IntsAre vs ns) (h11 : ns.length = 11) (X : (hd.heap_39 w.params).In s.heap) (T : Top p loose mean mg mb s.heap) (hroom : A.depth + 5 < recursionLimit) (hh : A.handled = none) :
    codeAny (model PySem.Challenge.rw_rs0108_01.row.prog w) A (.call (.ref 130) ⟨[.ref C], []⟩) (Ret s fun v _ => ∃ t', v = .str (mkS (ringL ns)) t') s := by
  w_top off
  revert X
  k_fill
  intro X
  refine enter0 (binds := [(Str.ofString "cells", .ref C)]) X T (by k_is) (by k_is) (by omega) rfl rfl ?_ (by decide) rfl rfl rfl
  intro h₁ F N
  refine wp_cut 2 _ ?_
  dsimp only [List.take, List.drop]
  repeat' walk1
  rename Fr _ _ _ _ => F'
  rename News _ _ _ _ => N'
  have hvs : vs.toArray.size ≤ sizeLine := by
    have : (11 : Nat) ≤ sizeLine := by decide
    simp [hi.length, h11]; omega
  obtain ⟨half, hh0⟩ : ∃ half : Nat, half = halfOf ns := ⟨_, rfl⟩
  have hh2 : 0 ≤ (ns.getD 9 0).fmod 2 ∧ (ns.getD 9 0).fmod 2 < 2 := ⟨Int.fmod_nonneg_of_pos _ (by decide), Int.fmod_lt_of_pos _ (by decide)⟩
  have hh1 : (3 + (ns.getD (Int.toNat 9) 0).fmod 2) = (half : Int) := by
    show 3 + (ns.getD 9 0).fmod 2 = _
    rw [hh0, halfOf, Int.toNat_of_nonneg (by omega)]
  have hh3 : half = 3 ∨ half = 4 := by rw [show (Int.toNat 9) = 9 from rfl] at hh1; omega
  rw [hh1] at F'
  generalize Shared.toks _ = T1 at F'
  generalize Shared.toks _ = T2 at F'
  clear hh1 hh2
  refine .mk (wpAny_execs_cons (wpAny_For ?_ (fun _ => rfl)))
  repeat' walk1
  rename IntsAre _ _ => hI
  rename Fr _ _ _ _ => F2
  rename News _ _ _ _ => N2
  rename List Value => ws
  rename Addr => D
  have hk : (2 * (half : Int) + 1).toNat = 2 * half + 1 := by omega
  rw [hk] at hI
  have hlen : ws.length = 2 * half + 1 := by rw [hI.length, List.length_take, h11]; omega
  have hrl : ringL ns = (ns.take (2 * half + 1)).foldl (ringStep half) [] := by rw [hh0]; rfl
  refine forList (· = s.gens) hh rfl rfl rfl F2 N2 (News.isList N2 (.head _)) (Ne.symm (N2 _ (.head _)).2.1) rfl
    (fun i m news => ∃ tr th tc, m (Str.ofString "cells") = some tc ∧ m (Str.ofString "half") = some (.int (half : Int) th) ∧ m (Str.ofString "ring") = some (.str (mkS ((List.take i (ns.take (2 * half + 1))).foldl (ringStep half) [])) tr)) ⟨_, _, _, rfl, rfl, rfl⟩ ?_ ?_
  · rintro I i v m₁ news₁ h4 tk4 gs4 own rfl hv ⟨tr, th, tc, m1, m2, m3⟩ hn4 hown F4 N4
    have hiw : i < ws.length := (List.getElem?_eq_some_iff.mp hv).1
    obtain ⟨c, hc⟩ : ∃ c, (ns.take (2 * half + 1))[i]? = some c := ⟨_, List.getElem?_eq_getElem (by rw [← hI.length]; exact hiw)⟩
    obtain ⟨t5, ht5⟩ := hI.get i c hc
    rw [ht5] at hv
    cases hv
    have hsu : (List.take (i + 1) (ns.take (2 * half + 1))).foldl (ringStep half) [] = ringStep half ((List.take i (ns.take (2 * half + 1))).foldl (ringStep half) []) c := by
      rw [List.take_add_one, hc]; simp [List.foldl_append]
    obtain ⟨r, hr⟩ : ∃ r, r = (List.take i (ns.take (2 * half + 1))).foldl (ringStep half) [] := ⟨_, rfl⟩
    rw [← hr] at m3 hsu
    have e41 := count41 r
    have e40 := count40 r
    have hrlen : (mkS r).length ≤ 100 := by
      have e := ring_len half (List.take i (ns.take (2 * half + 1))) []
      rw [← hr] at e
      have : (List.take i (ns.take (2 * half + 1))).length ≤ 2 * half + 1 := by rw [List.length_take, List.length_take]; omega
      show r.toArray.size ≤ 100
      rw [List.size_toArray, e]
      simp only [List.length_nil]
      omega
    have F5 := fr_known (k := Str.ofString "ring") (fr_known (k := Str.ofString "half") F4 m2) m3
    clear F4
    repeat' walk1
    all_goals
      rename Fr _ _ _ _ => F'
      rename News _ _ _ _ => N'
      first
        | (have e : mkS r ++ Str.ofString ")" = mkS (List.foldl (ringStep half) [] (List.take (i + 1) (ns.take (2 * half + 1)))) := by rw [hsu, step41 (by omega), app41]
           exact afterW (news₂ := news₁) F' N' rfl (fun q hq e => hn4 q hq (List.mem_singleton.mp e)) ⟨_, _, _, m1, rfl, congrArg (fun z => some (Value.str z _)) e⟩)
        | (have e : mkS r ++ Str.ofString "(" = mkS (List.foldl (ringStep half) [] (List.take (i + 1) (ns.take (2 * half + 1)))) := by rw [hsu, step40 (by omega), app40]
           exact afterW (news₂ := news₁) F' N' rfl (fun q hq e => hn4 q hq (List.mem_singleton.mp e)) ⟨_, _, _, m1, rfl, congrArg (fun z => some (Value.str z _)) e⟩)
  · rintro h4 tk4 gs4 m₁ news₁ rfl F4 N4 ⟨tr, th, tc, m1, m2, m3⟩
    rw [List.take_of_length_le (by rw [← hI.length]; exact Nat.le_refl _), ← hrl] at m3
    have F5 := fr_known (k := Str.ofString "ring") F4 m3
    clear F4
    dsimp only
    repeat' walk1
    exact ⟨_, _, _, rfl, rfl, F5.keep, _, rfl⟩
theorem all (v : V) : P v := byEps (v0 := v0) (by unfold v0; rfl) main v
end kring_spec
theorem ring_spec {w : World} {A : Around} {s : Shared} {p : Program} {loose : List Str} {mean : ExcName → Option Value} {mg : Str → Option Value} {mb : Str → Option Value} {C : Addr} {vs : List Value} {ns : List Int} (hC : s.heap.IsList C vs.toArray) (hi : IntsAre vs ns) (h11 : ns.length = 11) (X : (hd.heap_39 w.params).In s.heap) (T : Top p loose mean mg mb s.heap) (hroom : A.depth + 5 < recursionLimit) (hh : A.handled = none) :
    codeAny (model PySem.Challenge.rw_rs0108_01.row.prog w) A (.call (.ref 130) ⟨[.ref C], []⟩) (Ret s fun v _ => ∃ t', v = .str (mkS (ringL ns)) t') s := kring_spec.all (w, A, s, p, loose, mean, mg, mb, C, vs, ns) hC hi h11 X T hroom hh
end
end Mine
end
-- part D2d
section
open PySem PySem.W PySem.Calls PyProof.Rows
namespace Mine
noncomputable abbrev Tab75 (h : Heap) : Prop := TabS 75 (91, 4) (Str.ofString "_digits2int.<locals>.inner") h
noncomputable def RetVT (x : Int) (s : Shared) (r : Result) (s' : Shared) : Prop :=
  ∃ h' tk t, r = .ok (.ret (.int x t)) ∧ s' = { s with heap := h', toks := tk } ∧ (∀ b o, b ≠ 75 → s.heap.get? b = some o → h'.get? b = some o) ∧ Tab75 h'
theorem qualD {sc : Scope} {L a : Addr} {cd : Value} (h : qualnameIn (envOfC (Str.ofString "_digits2int") sc L a cd) (Str.ofString "inner") (Str.ofString "inner") = (Str.ofString "_digits2int" ++ ".<locals>.") ++ Str.ofString "inner") : qualnameIn (envOfC (Str.ofString "_digits2int") sc L a cd) (Str.ofString "inner") (Str.ofString "inner") = Str.ofString "_digits2int.<locals>.inner" := by
  rw [h]; decide +kernel
theorem retVT_of {s : Shared} {L : Addr} {m : Str → Option Value} {h : Heap} {x : Int} {t : Tok} {tk : Nat} (F : Fr (hideAll s.heap [75]) L h m) (hT : Tab75 h) : RetVT x s (.ok (.ret (.int x t))) { s with heap := h, toks := tk } :=
  ⟨h, tk, t, rfl, rfl, fun b o hb e => F.keep b o (hideAll_get _ e (by simpa using hb)), hT⟩
section
variable {w : World} {A : Around} {s : Shared} {p : Program} {loose : List Str} {mean : ExcName → Option Value} {mg mb : Str → Option Value}
end
section
namespace kd2i_spec
noncomputable abbrev V := (World) × (Around) × (Shared) × (Program) × (List Str) × (ExcName → Option Value) × (Str → Option Value) × (Str → Option Value) × (Heap) × (Addr) × (Nat) × (Nat) × (Tok)
noncomputable def P (v : V) : Prop :=
  (fun (w : World) (A : Around) (s : Shared) (p : Program) (loose : List Str) (mean : ExcName → Option Value) (mg : Str → Option Value) (mb : Str → Option Value) (g : Heap) (D : Addr) (n : Nat) (nn : Nat) (tn : Tok) =>
  ∀ (vs : List Value) (es : List Nat) (hg : ∀ b o, g.get? b = some o → s.heap.get? b = some o) (hgs : g.objs.size ≤ s.heap.objs.size) (g75 : g.get? 75 = none) (gD : g.get? D = none) (hT : Tab75 s.heap) (hD : s.heap.get? D = some (listOf vs.toArray nn)) (hi : IntsAre vs (natsI es)) (hes : ∀ e ∈ es, e < 2 ^ n) (hel : es.length ≤ 20) (hn : n ≤ 5000) (C : CodeHd g 79 75) (X : (hd.heap_39 w.params).In g) (T : Top p loose mean mg mb g) (hroom : A.depth + 30 < recursionLimit) (hh : A.handled = none), codeAny (model PySem.Challenge.rw_rs0108_01.row.prog w) A (.call (.ref 80) ⟨[.ref D, .int n tn], []⟩) (RetVT ((valD n es : Nat) : Int) s) s)
    v.1 v.2.1 v.2.2.1 v.2.2.2.1 v.2.2.2.2.1 v.2.2.2.2.2.1 v.2.2.2.2.2.2.1 v.2.2.2.2.2.2.2.1 v.2.2.2.2.2.2.2.2.1 v.2.2.2.2.2.2.2.2.2.1 v.2.2.2.2.2.2.2.2.2.2.1 v.2.2.2.2.2.2.2.2.2.2.2.1 v.2.2.2.2.2.2.2.2.2.2.2.2
@[irreducible] noncomputable def v0 : V := @Classical.epsilon V ⟨(aW, callerA, {}, PySem.Challenge.rw_rs0108_01.row.prog, [], fun _ => none, fun _ => none, fun _ => none, {}, 0, 0, 0, 0)⟩ fun v => ¬ P v
noncomputable def w : World := v0.1
noncomputable def A : Around := v0.2.1
noncomputable def s : Shared := v0.2.2.1
noncomputable def p : Program := v0.2.2.2.1
noncomputable def loose : List Str := v0.2.2.2.2.1
noncomputable def mean : ExcName → Option Value := v0.2.2.2.2.2.1
noncomputable def mg : Str → Option Value := v0.2.2.2.2.2.2.1
noncomputable def mb : Str → Option Value := v0.2.2.2.2.2.2.2.1
noncomputable def g : Heap := v0.2.2.2.2.2.2.2.2.1
noncomputable def D : Addr := v0.2.2.2.2.2.2.2.2.2.1
noncomputable def n : Nat := v0.2.2.2.2.2.2.2.2.2.2.1
noncomputable def nn : Nat := v0.2.2.2.2.2.2.2.2.2.2.2.1
noncomputable def tn : Tok := v0.2.2.2.2.2.2.2.2.2.2.2.2
set_option maxHeartbeats 8000000 in
theorem main (vs : List Value) (es : List Nat) (hg : ∀ b o, g.get? b = some o → s.heap.get? b = some o) (hgs : g.objs.size ≤ s.heap.objs.size) (g75 : g.get? 75 = none) (gD : g.get? D = none) (hT : Tab75 s.heap) (hD : s.heap.get? D = some (listOf vs.toArray nn)) (hi : IntsAre vs (natsI es)) (hes : ∀ e ∈ es, e < 2 ^ n) (hel : es.length ≤ 20) (hn : n ≤ 5000) (C : CodeHd g 79 75) (X : (hd.heap_39 w.params).In g) (T : Top p loose mean mg mb g) (hroom : A.depth + 30 < recursionLimit) (hh : A.handled = none) :
    codeAny (model PySem.Challenge.rw_rs0108_01.row.prog w) A (.call (.ref 80) ⟨[.ref D, .int n tn], []⟩) (RetVT ((valD n es : Nat) : Int) s) s := by
  w_top off
  revert X
  k_fill
  intro X
  have hg' := hide_keep (as := [75]) hg (fun a ha => by rw [List.mem_singleton.mp ha]; exact g75)
  have hgk : ∀ b o, (hideAll s.heap [75]).get? b = some o → s.heap.get? b = some o := fun b o e => of_hideAll _ e
  refine enterC (g := hideAll s.heap [75]) (binds := [(Str.ofString "digits", .ref D), (Str.ofString "n", .int n tn)]) hgk (Nat.le_of_eq (hideAll_size _ _)) (X.keeps hg') (T.keeps hg') (by k_is) (by k_is) (by omega) rfl rfl (by decide +kernel) ?_ rfl rfl rfl
  intro h₁ tk cells F hk N Y
  have X0 := X
  have T0 := T
  have hg0 : ∀ b o, g.get? b = some o → (hideAll s.heap [75]).get? b = some o := hg'
  replace C := C.keeps hg'
  replace X := X.keeps hg'
  replace T := T.keeps hg'
  k_cells Y
  rename_i o1 o2 o3 d1 d2 d3
  replace d1 : o1.data = .cell none := d1
  replace F : Fr (hideAll s.heap [75]) s.heap.objs.size h₁ (fun _ => none) := F
  obtain ⟨ps, hps, htab⟩ := hT
  have l75 : 75 < s.heap.objs.size := Heap.lt_size hps
  have lD : D < s.heap.objs.size := Heap.lt_size hD
  have hD75 : D ≠ 75 := fun e => by rw [e, hps] at hD; cases hD
  have hDg : (hideAll s.heap [75]).get? D = some (listOf vs.toArray nn) := hideAll_get _ hD (by simpa using hD75)
  have hDl : (hideAll s.heap [75]).IsList D vs.toArray := ⟨_, hDg, rfl, _, rfl⟩
  replace d2 : o2.data = .cell (some (.int n tn)) := d2
  replace d3 : o3.data = .cell (some (.ref D)) := d3
  have N2 : News (hideAll s.heap [75]) s.heap.objs.size h₁ [(s.heap.objs.size + 1 + 1 + 1, o1), (s.heap.objs.size + 1 + 1, o2), (s.heap.objs.size + 1, o3), (75, tabObj ps)] := fun q hq => by
    rcases List.mem_append.mp (show q ∈ [(s.heap.objs.size + 1 + 1 + 1, o1), (s.heap.objs.size + 1 + 1, o2), (s.heap.objs.size + 1, o3)] ++ [(75, tabObj ps)] from hq) with hq | hq
    · exact N q hq
    · rw [List.mem_singleton.mp hq]
      exact ⟨hk _ _ hps, Nat.ne_of_lt l75, hideAll_none _ (.head _)⟩
  clear N
  have hsz : vs.toArray.size = es.length := by rw [List.size_toArray, hi.length, natsI_len]
  have hsl : vs.toArray.size ≤ sizeLine := by
    have : (20 : Nat) ≤ sizeLine := by decide
    omega
  have gfresh : ∀ a, s.heap.objs.size ≤ a → g.get? a = none := fun a ha => Heap.get?_none_of_le (Nat.le_trans hgs ha)
  refine wp_cut 1 _ ?_
  dsimp only [List.take, List.drop]
  rcases htab with rfl | ⟨c, rfl, hcr, hc1, hc2⟩
  all_goals
    repeat' walk1
    refine .mk ?_
  all_goals
    rename Fr _ _ _ _ => F6
    rename News _ _ _ _ => N6
    rw [qualD rfl] at *
    clear hk hg
  rotate_left
  replace hcr := Heap.CodeRec.at (h' := hideAll s.heap [75]) hcr (fun o e => hideAll_get _ e (by simpa using hc2))
  all_goals
    repeat' walk1
    next =>
      rename (vs.isEmpty = true) => he
      have hv : es = [] := by
        cases vs with
        | nil => cases es with
          | nil => rfl
          | cons a b => simp at hsz
        | cons a b => cases he
      rename Fr _ _ _ _ => F8
      rename News _ _ _ _ => N8
      show RetVT _ _ _ _
      subst hv
      refine retVT_of F8 ?_
      first
        | exact tab_news N8 (by k_mem) (codeRec_news N8 (by k_mem) (by assumption) (by assumption)) (neN (by omega)) (neN (by omega))
        | exact tab_news N8 (by k_mem) (hcr.keeps F8.keep) hc1 hc2
    rename Fr _ _ _ _ => F7
    rename News _ _ _ _ => N7
    rename (vs.isEmpty = false) => he
    have hv : 0 < es.length := by
      cases vs with
      | nil => cases he
      | cons a b => rw [← hsz]; simp
    rw [hsz]
    refine use_innerD (L := 0) (inner_d (D := D) (ca := s.heap.objs.size + 1) (ci := s.heap.objs.size + 1 + 1 + 1) (cn := s.heap.objs.size + 1 + 1) C (by k_is) d3 (by assumption) d2 X0 T0 (five_fresh (gfresh _ (Nat.le_of_lt (ltN (by omega)))) gD (gfresh _ (Nat.le_of_lt (ltN (by omega)))) (gfresh _ (Nat.le_of_lt (ltN (by omega)))) (gfresh _ (Nat.le_of_lt (ltN (by omega))))) hn hi hes (by omega) 20 (Nat.le_refl _)) F7 N7 hv (by omega) (Nat.le_refl _)
      ⟨fun b o e => F7.keep b o (hg0 b o e), F7.keep _ _ hDg, N7.get (by k_mem), N7.get (by k_mem), N7.get (by k_mem), N7.get (by k_mem), by first | exact codeRec_news N7 (by k_mem) (by assumption) (by assumption) | exact hcr.keeps F7.keep⟩ (by show A.depth + 1 + 20 + 5 < recursionLimit; omega) hh ?_
    intro h8 tk8 t8 F8 N8
    have hcut : cutD es 0 es.length = es := by simp [cutD]
    rw [hcut]
    clear F7 N7
    repeat' walk1
    show RetVT _ _ _ _
    refine retVT_of F8 ?_
    first
      | exact tab_news N8 (by k_mem) (codeRec_news N8 (by k_mem) (by assumption) (by assumption)) (neN (by omega)) (neN (by omega))
      | exact tab_news N8 (by k_mem) (hcr.keeps F8.keep) hc1 hc2
theorem all (v : V) : P v := byEps (v0 := v0) (by unfold v0; rfl) main v
end kd2i_spec
theorem d2i_spec {w : World} {A : Around} {s : Shared} {p : Program} {loose : List Str} {mean : ExcName → Option Value} {mg : Str → Option Value} {mb : Str → Option Value} {g : Heap} {D : Addr} {n nn : Nat} {tn : Tok} {vs : List Value} {es : List Nat} (hg : ∀ b o, g.get? b = some o → s.heap.get? b = some o) (hgs : g.objs.size ≤ s.heap.objs.size) (g75 : g.get? 75 = none) (gD : g.get? D = none) (hT : Tab75 s.heap) (hD : s.heap.get? D = some (listOf vs.toArray nn)) (hi : IntsAre vs (natsI es)) (hes : ∀ e ∈ es, e < 2 ^ n) (hel : es.length ≤ 20) (hn : n ≤ 5000) (C : CodeHd g 79 75) (X : (hd.heap_39 w.params).In g) (T : Top p loose mean mg mb g) (hroom : A.depth + 30 < recursionLimit) (hh : A.handled = none) :
    codeAny (model PySem.Challenge.rw_rs0108_01.row.prog w) A (.call (.ref 80) ⟨[.ref D, .int n tn], []⟩) (RetVT ((valD n es : Nat) : Int) s) s := kd2i_spec.all (w, A, s, p, loose, mean, mg, mb, g, D, n, nn, tn) vs es hg hgs g75 gD hT hD hi hes hel hn C X T hroom hh
end
end Mine
end
end
-- part Row
section
open PySem PySem.W PySem.Calls PyProof.Rows
namespace Mine
noncomputable def tailL (c : Int) : List Nat := if (c.fdiv 2).fmod 4 = 0 then [] else if (c.fdiv 2).fmod 4 = 1 then [97] else if (c.fdiv 2).fmod 4 = 2 then [98, 46] else [11, 46]
noncomputable def endL (b : Bool) (c : Int) : List Nat := if b then [] else if (c.fdiv 8).fmod 4 = 0 then [10] else if (c.fdiv 8).fmod 4 = 1 then [13] else if (c.fdiv 8).fmod 4 = 2 then [13, 10] else [10, 13, 97, 46, 13]
noncomputable def sentL (b : Bool) (c : Int) : List Nat := if b then [] else if (c.fdiv 8).fmod 4 = 3 then [13, 10, 13, 10, 97, 46, 13, 10] else [13, 10]
noncomputable def RowTup (h : Heap) (v : Value) (b : Bool) (c : Int) : Prop := ∃ D S1 S2 S3 t1 t2 t3, v = .ref D ∧ h.IsTuple D #[.str S1 t1, .str S2 t2, .str S3 t3] ∧ S1 = mkS (tailL c) ∧ S2 = mkS (endL b c) ∧ S3 = mkS (sentL b c)
noncomputable def J1 (s : Shared) (c : Int) (b : Bool) (s' : Shared) : Prop := ∃ h' tk m S t1 tc, s' = { s with heap := h', toks := tk } ∧ Fr s.heap s.heap.objs.size h' m ∧ News s.heap s.heap.objs.size h' [] ∧
    m (Str.ofString "cell") = some (.int c tc) ∧ m (Str.ofString "last") = some (.bool b) ∧ m (Str.ofString "tail") = some (.str S t1) ∧ S = mkS (tailL c)
section
variable {w : World} {A : Around} {s : Shared} {p : Program} {loose : List Str} {mean : ExcName → Option Value} {mg mb : Str → Option Value}

end
section
namespace krow_spec
noncomputable abbrev VK := (World) × (Around) × (Shared) × (Program) × (List Str) × (ExcName → Option Value) × (Str → Option Value) × (Str → Option Value)
noncomputable def PK (v : VK) : Prop :=
  (fun (w : World) (A : Around) (s : Shared) (p : Program) (loose : List Str) (mean : ExcName → Option Value) (mg : Str → Option Value) (mb : Str → Option Value) =>
  ∀ (c : Int) (t : Tok) (b : Bool) (X : (hd.heap_39 w.params).In s.heap) (T : Top p loose mean mg mb s.heap) (hroom : A.depth + 5 < recursionLimit) (hh : A.handled = none), codeAny (model PySem.Challenge.rw_rs0108_01.row.prog w) A (.call (.ref 137) ⟨[.int c t, .bool b], []⟩) (Ret s fun v h => RowTup h v b c) s)
    v.1 v.2.1 v.2.2.1 v.2.2.2.1 v.2.2.2.2.1 v.2.2.2.2.2.1 v.2.2.2.2.2.2.1 v.2.2.2.2.2.2.2
@[irreducible] noncomputable def vK : VK := @Classical.epsilon VK ⟨(aW, callerA, {}, PySem.Challenge.rw_rs0108_01.row.prog, [], fun _ => none, fun _ => none, fun _ => none)⟩ fun v => ¬ PK v
noncomputable def w : World := vK.1
noncomputable def A : Around := vK.2.1
noncomputable def s : Shared := vK.2.2.1
noncomputable def p : Program := vK.2.2.2.1
noncomputable def loose : List Str := vK.2.2.2.2.1
noncomputable def mean : ExcName → Option Value := vK.2.2.2.2.2.1
noncomputable def mg : Str → Option Value := vK.2.2.2.2.2.2.1
noncomputable def mb : Str → Option Value := vK.2.2.2.2.2.2.2
set_option maxHeartbeats 8000000 in
theorem main (c : Int) (t : Tok) (b : Bool) (X : (hd.heap_39 w.params).In s.heap) (T : Top p loose mean mg mb s.heap) (hroom : A.depth + 5 < recursionLimit) (hh : A.handled = none) :
    codeAny (model PySem.Challenge.rw_rs0108_01.row.prog w) A (.call (.ref 137) ⟨[.int c t, .bool b], []⟩) (Ret s fun v h => RowTup h v b c) s := by
  w_top off
  revert X
  k_fill
  intro X
  refine enter0 (binds := [(Str.ofString "cell", .int c t), (Str.ofString "last", .bool b)]) X T (by k_is) (by k_is) (by omega) rfl rfl ?_ (by decide) rfl rfl rfl
  intro h₁ F N
  refine wp_cutJ 1 _ (J1 s c b) ?_ ?_
  rotate_left
  · rintro s' ⟨h', tk, m, S, t1, tc, rfl, F6, N6, m1, m2, m3, rfl⟩
    dsimp only [List.drop]
    have F7 := fr_known (k := Str.ofString "cell") (fr_known (k := Str.ofString "last") (fr_known (k := Str.ofString "tail") F6 m3) m2) m1
    clear F6 F N
    cases b
    all_goals repeat' walk1
    all_goals
      rename Fr _ _ _ _ => F'
      rename News _ _ _ _ => N'
      refine ⟨_, _, _, rfl, rfl, F'.keep, _, _, _, _, _, _, _, rfl, ⟨_, (N' _ (.head _)).1, rfl, _, rfl⟩, rfl, ?_, ?_⟩
      · first
          | (show _ = mkS []; decide +kernel)
          | (rename (Int.fmod (Int.fdiv c 8) 4 = _) => e8; rw [endL, e8]; decide +kernel)
      · first
          | (show _ = mkS []; decide +kernel)
          | (rename (Int.fmod (Int.fdiv c 8) 4 = _) => e8; rw [sentL, e8]; decide +kernel)
  dsimp only [List.take]
  repeat' walk1
  all_goals
    rename Fr _ _ _ _ => F'
    rename (Int.fmod (Int.fdiv c 2) 4 = _) => e2
    refine ⟨_, _, _, _, _, _, rfl, F', News.nil, rfl, rfl, rfl, ?_⟩
    rw [tailL, e2]; decide +kernel
theorem all (v : VK) : PK v := byEps (v0 := vK) (by unfold vK; rfl) main v
end krow_spec
theorem row_spec {w : World} {A : Around} {s : Shared} {p : Program} {loose : List Str} {mean : ExcName → Option Value} {mg : Str → Option Value} {mb : Str → Option Value} {c : Int} {t : Tok} {b : Bool} (X : (hd.heap_39 w.params).In s.heap) (T : Top p loose mean mg mb s.heap) (hroom : A.depth + 5 < recursionLimit) (hh : A.handled = none) :
    codeAny (model PySem.Challenge.rw_rs0108_01.row.prog w) A (.call (.ref 137) ⟨[.int c t, .bool b], []⟩) (Ret s fun v h => RowTup h v b c) s := krow_spec.all (w, A, s, p, loose, mean, mg, mb) c t b X T hroom hh
end
end Mine
end
-- part CompI
section
open PySem PySem.W PySem.Calls PyProof.Rows
namespace Mine
section
variable {prog : Program} {w : World} {A : Around} {s : Shared} {h₀ : Heap} {L : Addr} {m : Str → Option Value} {env : Env} {elt ct : Expr} {x : Str} {scope : Scope} {cl : List (Str × Addr)} {S : List (Addr × Obj) → Prop} {P : Nat → Value → Prop} {Fin : List Value → List (Addr × Obj) → Prop}

theorem end_mono {s₁ : Shared} {I C D : Addr} {oI oC oD : Obj} {r r' : Value → List (Addr × Obj) → Prop} {y : Value} {s₂ : Shared} (h : LCg.CompEnd h₀ L m s₁ I oI C oC D oD S r y s₂) (hr : ∀ n, r y n → r' y n) : LCg.CompEnd h₀ L m s₁ I oI C oC D oD S r' y s₂ := by
  obtain ⟨h', tk, news', e, F, N, o, hS, q⟩ := h
  exact ⟨h', tk, news', e, F, N, o, hS, hr _ q⟩

theorem comp_inv (n : Nat) (Y : Nat → List Value → List (Addr × Obj) → Prop)
    (turn : ∀ i v I oI C oC D m₂ h tk ys news, i < n → P i v → LCg.NsObj oC m₂ → m₂ x = some v → Fr h₀ L h m → News h₀ L h ((I, oI) :: (C, oC) :: (D, LCg.lst ys) :: news) → LCg.Off3 I C D news → ((@Ne Nat I C) ∧ (@Ne Nat I D) ∧ (@Ne Nat C D)) → Y i ys news →
      wpAny (model prog w) A (eval elt (compEnvC scope cl C env)) (LCg.CompEnd h₀ L m { s with heap := h, toks := tk } I oI C oC D (LCg.lst ys) S (fun y news' => Y (i + 1) (ys ++ [y]) news')) (fun _ _ => False) { s with heap := h, toks := tk })
    (fin : ∀ ys news, Y n ys news → Fin ys news) : ∀ (k i : Nat) (ys : List Value) (news : List (Addr × Obj)), i + k = n → Y i ys news → LCg.CompRest prog w A h₀ L m env elt x scope cl s S P Fin k i ys news
  | 0, i, ys, news, hk, y => LCg.CompRest.zero (fin ys news (by rw [← hk]; exact y))
  | k + 1, i, ys, news, hk, y => LCg.CompRest.succ fun v I oI C oC D m₂ h tk E' hP hC hv F N off ne => by
    refine wpAny_mono (turn i v I oI C oC D m₂ h tk ys news (by lia) hP hC hv F N off ne y) (fun yv s' he => end_mono he fun n' hy => comp_inv n Y turn fin k (i + 1) (ys ++ [yv]) n' (by lia) hy) fun _ _ q => q.elim

theorem comp_invT (n : Nat) (Y : Nat → List Value → List (Addr × Obj) → Prop)
    (turn : ∀ i v I oI C oC D m₂ h tk ys news, i < n → P i v → LCg.NsObj oC m₂ → m₂ x = some v → Fr h₀ L h m → News h₀ L h ((I, oI) :: (C, oC) :: (D, LCg.lst ys) :: news) → LCg.Off3 I C D news → ((@Ne Nat I C) ∧ (@Ne Nat I D) ∧ (@Ne Nat C D)) → Y i ys news →
      wpAny (model prog w) A (isTrue ct (compEnvC scope cl C env) (eval ct (compEnvC scope cl C env))) (fun ok s' => if ok = true then
        wpAny (model prog w) A (eval elt (compEnvC scope cl C env)) (LCg.CompEnd h₀ L m { s with heap := h, toks := tk } I oI C oC D (LCg.lst ys) S (fun y news' => Y (i + 1) (ys ++ [y]) news')) (fun _ _ => False) s'
        else LCg.CompEnd h₀ L m { s with heap := h, toks := tk } I oI C oC D (LCg.lst ys) S (fun _ news' => Y (i + 1) ys news') Value.none s') (fun _ _ => False) { s with heap := h, toks := tk })
    (fin : ∀ ys news, Y n ys news → Fin ys news) : ∀ (k i : Nat) (ys : List Value) (news : List (Addr × Obj)), i + k = n → Y i ys news → LCt.CompRestT prog w A h₀ L m env ct elt x scope cl s S P Fin k i ys news
  | 0, i, ys, news, hk, y => LCt.CompRestT.zero (fin ys news (by rw [← hk]; exact y))
  | k + 1, i, ys, news, hk, y => LCt.CompRestT.succ fun v I oI C oC D m₂ h tk E' hP hC hv F N off ne => by
    refine wpAny_mono (turn i v I oI C oC D m₂ h tk ys news (by lia) hP hC hv F N off ne y) (fun ok s' he => ?_) fun _ _ q => q.elim
    cases ok with
    | true => exact wpAny_mono he (fun yv s' he => end_mono he fun n' hy => comp_invT n Y turn fin k (i + 1) (ys ++ [yv]) n' (by lia) hy) fun _ _ q => q.elim
    | false =>
      rw [if_neg Bool.false_ne_true] at he ⊢
      have he : LCg.CompEnd h₀ L m { s with heap := h, toks := tk } I oI C oC D (LCg.lst ys) S (fun _ news' => Y (i + 1) ys news') Value.none s' := he
      exact end_mono he fun n' hy => comp_invT n Y turn fin k (i + 1) ys n' (by lia) hy

/-- a turn that leaves the same things -/
theorem end_same {s₁ : Shared} {I C D : Addr} {oI oC oD : Obj} {r : Value → List (Addr × Obj) → Prop} {y : Value} {h' : Heap} {tk : Nat} {news : List (Addr × Obj)} {more : List (Addr × Obj)}
    (F : Fr h₀ L h' m) (N : News h₀ L h' (more ++ (I, oI) :: (C, oC) :: (D, oD) :: news)) (off : LCg.Off3 I C D news) (hS : S news) (hr : r y news) : LCg.CompEnd h₀ L m s₁ I oI C oC D oD S r y { s₁ with heap := h', toks := tk } :=
  LCg.CompEnd.intro F N news (fun _ hp => List.mem_append_right _ hp) off hS hr
end
end Mine
end
-- part Dmp0
section
open PySem PySem.W PySem.Calls PyProof.Rows
namespace Mine
/-- a table's state, its code kept by the base or in the ledger -/
noncomputable def TabN (pos : Int × Int) (qual : Str) (g : Heap) (news : List (Addr × Obj)) (ps : Array Value) : Prop :=
  ps = #[] ∨ ∃ c o vs t, ps = #[rawInt pos.1, rawInt pos.2, .ref c] ∧ ((c, o) ∈ news ∨ g.get? c = some o) ∧ o.data = .fields vs ∧ vs[1]? = some (.str qual t) ∧ c ≠ 68 ∧ c ≠ 75
noncomputable abbrev TN68 := TabN (76, 4) (Str.ofString "_int2digits.<locals>.inner")
noncomputable abbrev TN75 := TabN (91, 4) (Str.ofString "_digits2int.<locals>.inner")
section
variable {pos : Int × Int} {qual : Str} {g h : Heap} {L : Addr} {m : Str → Option Value} {news news' : List (Addr × Obj)} {ps : Array Value} {P : Addr}
theorem TabN.mono (x : TabN pos qual g news ps) (hs : ∀ q ∈ news, q.1 ≠ 68 → q.1 ≠ 75 → q ∈ news') : TabN pos qual g news' ps := by
  rcases x with rfl | ⟨c, o, vs, t, rfl, hm, r1, r2, r3, r4⟩
  · exact .inl rfl
  · exact .inr ⟨c, o, vs, t, rfl, hm.imp (fun q => hs _ q r3 r4) id, r1, r2, r3, r4⟩
theorem TabN.tab (x : TabN pos qual g news ps) (F : Fr g L h m) (N : News g L h news) (hP : h.get? P = some (tabObj ps)) : TabS P pos qual h := by
  refine ⟨ps, hP, ?_⟩
  rcases x with rfl | ⟨c, o, vs, t, rfl, hm, r1, r2, r3, r4⟩
  · exact .inl rfl
  · refine .inr ⟨c, rfl, ⟨c, o, vs, t, rfl, ?_, r1, r2⟩, r3, r4⟩
    rcases hm with hm | hm
    · exact (N _ hm).1
    · exact F.keep _ _ hm
theorem tabN_of_base (x : TabS P pos qual h) : ∃ ps, h.get? P = some (tabObj ps) ∧ TabN pos qual (hideAll h [68, 75]) [] ps := by
  obtain ⟨ps, hP, r⟩ := x
  refine ⟨ps, hP, r.imp id ?_⟩
  rintro ⟨c, rfl, ⟨c', o, vs, t, e, h1, h2, h3⟩, r3, r4⟩
  cases e
  exact ⟨c, o, vs, t, rfl, .inr (hideAll_get _ h1 (by simp [r3, r4])), h2, h3, r3, r4⟩
/-- the table behind a call: its code is an old one, or goes into the ledger -/
theorem tabN_next (F : Fr g L h m) (x : TabS P pos qual h) : ∃ ps ex, h.get? P = some (tabObj ps) ∧ TabN pos qual g ex ps ∧ News g L h ex ∧ ∀ q ∈ ex, q.1 ≠ 68 ∧ q.1 ≠ 75 := by
  obtain ⟨ps, hP, r⟩ := x
  rcases r with rfl | ⟨c, rfl, ⟨c', o, vs, t, e, h1, h2, h3⟩, r3, r4⟩
  · exact ⟨#[], [], hP, .inl rfl, News.nil, fun q hq => absurd hq List.not_mem_nil⟩
  · cases e
    cases q : g.get? c with
    | some o' =>
      have : o' = o := by have := F.keep _ _ q; rw [h1] at this; exact (Option.some.inj this).symm
      subst this
      exact ⟨_, [], hP, .inr ⟨c, _, vs, t, rfl, .inr q, h2, h3, r3, r4⟩, News.nil, fun q hq => absurd hq List.not_mem_nil⟩
    | none =>
      refine ⟨_, [(c, o)], hP, .inr ⟨c, o, vs, t, rfl, .inl (.head _), h2, h3, r3, r4⟩, fun z hz => ?_, fun z hz => by rw [List.mem_singleton.mp hz]; exact ⟨r3, r4⟩⟩
      rw [List.mem_singleton.mp hz]
      refine ⟨h1, fun e => ?_, q⟩
      obtain ⟨oL, es, ep, hL, dL, _⟩ := F.ns
      have e : c = L := e
      rw [e, hL] at h1
      cases h1
      rw [dL] at h2
      cases h2
theorem newsBut {a : Addr} {o : Obj} {own rest : List (Addr × Obj)} {h' : Heap} {o' : Obj} (N : News g L h (own ++ (a, o) :: rest)) (u1 : ∀ p ∈ own, p.1 ≠ a) (u2 : ∀ p ∈ rest, p.1 ≠ a) (hk : ∀ b o, b ≠ a → h.get? b = some o → h'.get? b = some o) (ha : h'.get? a = some o') : News g L h' (own ++ (a, o') :: rest) := fun q hq => by
  have hm := N (a, o) (List.mem_append_right _ (.head _))
  rcases List.mem_append.mp hq with hq | hq
  · have n := N q (List.mem_append_left _ hq)
    exact ⟨hk _ _ (u1 q hq) n.1, n.2⟩
  · rcases List.mem_cons.mp hq with rfl | hq
    · exact ⟨ha, hm.2⟩
    · have n := N q (List.mem_append_right _ (.tail _ hq))
      exact ⟨hk _ _ (u2 q hq) n.1, n.2⟩
theorem frBut {a : Addr} {h' : Heap} (F : Fr g L h m) (ha : g.get? a = none) (hL : a ≠ L) (hk : ∀ b o, b ≠ a → h.get? b = some o → h'.get? b = some o) : Fr g L h' m :=
  ⟨F.ns.at' fun o e => hk _ o (Ne.symm hL) e, fun b o e => hk b o (fun q => by rw [q, ha] at e; cases e) (F.keep b o e), F.above⟩
end
section
variable {w : World} {A : Around} {s : Shared} {p : Program} {loose : List Str} {mean : ExcName → Option Value} {mg mb : Str → Option Value} {g : Heap} {L : Addr} {m : Str → Option Value} {news : List (Addr × Obj)} {gg : Obj → List (Addr × Obj)} {E : Value → Shared → Prop} {Q : Value → Shared → Prop}
theorem use_i2d {a n : Nat} {ta tn : Tok} {p1 : Array Value} (F : Fr g L s.heap m) (N : News g L s.heap news) (U : UpdF 68 (tabObj p1) news gg) (hT : TN68 g news p1) (hn0 : 0 < n) (hn : n ≤ 5000) (ha : a < 2 ^ 20000) (hl20 : (bitsN a + n - 1) / n ≤ 20) (C : CodeHd g 72 68)
    (X : (hd.heap_39 w.params).In g) (T : Top p loose mean mg mb g) (hroom : A.depth + 30 < recursionLimit) (hh : A.handled = none)
    (h : ∀ h' tk D vs nn p1' ex, Fr g L h' m → News g L h' ((D, listOf vs.toArray nn) :: (gg (tabObj p1') ++ ex)) → IntsAre vs (digs n a) → TN68 g ex p1' → (∀ q ∈ ex, q.1 ≠ 68 ∧ q.1 ≠ 75) → (∀ q ∈ news, q.1 ≠ D) → Q (.ref D) { s with heap := h', toks := tk }) :
    wpAny (model PySem.Challenge.rw_rs0108_01.row.prog w) A (call (.ref 73) [.int a ta, .int n tn]) Q E s := by
  obtain ⟨own, rest, rfl, hgr, u1, u2⟩ := U.split
  have hm := N (68, tabObj p1) (List.mem_append_right _ (.head _))
  refine wpAny_call (codeAny_mono (i2d_spec F.keep (Nat.le_trans F.above (Nat.le_of_lt F.ns.lt)) hm.2.2 (hT.tab F N hm.1) hn0 hn ha hl20 C X T hroom hh) ?_)
  rintro r s' ⟨D, h', tk, vs, nn, rfl, rfl, hk, hT', hD, hi, hfr⟩
  have F' := frBut F hm.2.2 hm.2.1 hk
  obtain ⟨p1', ex, hP, hTN, NX, hex⟩ := tabN_next F' hT'
  have N' := newsBut (o' := tabObj p1') N u1 u2 hk hP
  rw [← hgr] at N'
  have hnD : ∀ q ∈ own ++ (68, tabObj p1) :: rest, q.1 ≠ D := fun q hq e => by have := (N q hq).1; rw [e, hfr] at this; cases this
  refine h h' tk D vs nn p1' ex F' (fun q hq => ?_) hi hTN hex hnD
  rcases List.mem_cons.mp hq with rfl | hq
  · refine ⟨hD, fun e => ?_, ?_⟩
    · have := F.ns.lt
      obtain ⟨oL, _, _, hL, _⟩ := F.ns
      have e : D = L := e
      rw [e, hL] at hfr; cases hfr
    · cases q : g.get? D with
      | none => rfl
      | some o => rw [F.keep _ _ q] at hfr; cases hfr
  · rcases List.mem_append.mp hq with hq | hq
    · exact N' q hq
    · exact NX q hq
theorem use_d2i {D : Addr} {n nn : Nat} {tn : Tok} {vs : List Value} {es : List Nat} {p2 : Array Value} (F : Fr g L s.heap m) (N : News g L s.heap news) (U : UpdF 75 (tabObj p2) news gg) (hT : TN75 g news p2) (hD : (D, listOf vs.toArray nn) ∈ news) (hi : IntsAre vs (natsI es)) (hes : ∀ e ∈ es, e < 2 ^ n) (hel : es.length ≤ 20) (hn : n ≤ 5000) (C : CodeHd g 79 75)
    (X : (hd.heap_39 w.params).In g) (T : Top p loose mean mg mb g) (hroom : A.depth + 30 < recursionLimit) (hh : A.handled = none)
    (h : ∀ h' tk t p2' ex, Fr g L h' m → News g L h' (gg (tabObj p2') ++ ex) → TN75 g ex p2' → (∀ q ∈ ex, q.1 ≠ 68 ∧ q.1 ≠ 75) → Q (.int ((valD n es : Nat) : Int) t) { s with heap := h', toks := tk }) :
    wpAny (model PySem.Challenge.rw_rs0108_01.row.prog w) A (call (.ref 80) [.ref D, .int n tn]) Q E s := by
  obtain ⟨own, rest, rfl, hgr, u1, u2⟩ := U.split
  have hm := N (75, tabObj p2) (List.mem_append_right _ (.head _))
  have hmD := N _ hD
  refine wpAny_call (codeAny_mono (d2i_spec F.keep (Nat.le_trans F.above (Nat.le_of_lt F.ns.lt)) hm.2.2 hmD.2.2 (hT.tab F N hm.1) hmD.1 hi hes hel hn C X T hroom hh) ?_)
  rintro r s' ⟨h', tk, t, rfl, rfl, hk, hT'⟩
  have F' := frBut F hm.2.2 hm.2.1 hk
  obtain ⟨p2', ex, hP, hTN, NX, hex⟩ := tabN_next F' hT'
  have N' := newsBut (o' := tabObj p2') N u1 u2 hk hP
  rw [← hgr] at N'
  refine h h' tk t p2' ex F' (fun q hq => ?_) hTN hex
  rcases List.mem_append.mp hq with hq | hq
  · exact N' q hq
  · exact NX q hq
theorem use_div2 {a b n : Nat} {ta tb tn : Tok} (hb0 : 0 < b) (hb : b < 2 ^ n) (hb' : 2 ^ n ≤ 2 * b) (ha : a < 2 ^ n * b) (hn : n ≤ 5000) (X : (hd.heap_39 w.params).In g) (T : Top p loose mean mg mb g) (F : Fr g L s.heap m) (N : News g L s.heap news) (hroom : A.depth + 25 < recursionLimit) (hh : A.handled = none)
    (h : ∀ h' tk D t1 t2, Fr g L h' m → News g L h' news → h'.IsTuple D #[.int ((a / b : Nat) : Int) t1, .int ((a % b : Nat) : Int) t2] → Q (.ref D) { s with heap := h', toks := tk }) :
    wpAny (model PySem.Challenge.rw_rs0108_01.row.prog w) A (call (.ref 59) [.int a ta, .int b tb, .int n tn]) Q E s := by
  refine use_fr F N (div2_spec hb0 hb hb' ha hn (X.keeps F.keep) (T.keeps F.keep) hroom hh) ?_
  rintro v h' tk F' N' ⟨D, t1, t2, rfl, hT⟩
  exact h h' tk D t1 t2 F' N' hT
end
end Mine
end
-- part ForR
section
open PySem PySem.W PySem.Calls PyProof.Rows
namespace Mine
/-- no code record -/
noncomputable def NoC (o : Obj) : Prop := ∀ vs, o.data = .fields vs → ∀ q t, vs[1]? ≠ some (.str q t)
/-- a for loop over a range from nought by ones -/
theorem forRange {prog : Program} {w : World} {A : Around} {s : Shared} {R : Result → Shared → Prop} {bd : List Stmt} {env : Env} {x : Str} {p1 : Pos} {h₀ : Heap} {L l : Addr} {n : Nat} {tx ty tz : Tok} {m : Str → Option Value} {news : List (Addr × Obj)} {E : Value → Shared → Prop} (Gs : Array GenState → Prop)
    (hh : A.handled = none) (hLe : env.locals = L) (hx : env.kindOf x = some .local) (hp : (env.scope.kind == .class || (env.scope.kind == .module && env.locals != env.globals)) = false)
    (F : Fr h₀ L s.heap m) (N : News h₀ L s.heap news) (hl : IsRange s.heap l 0 (n : Int) 1 tx ty tz) (hsm : Builtin.Range.small 0 (n : Int) 1 = true) (hsz : Builtin.Range.rangeSize 0 (n : Int) 1 = (n : Int)) (hG : Gs s.gens)
    (J : Nat → (Str → Option Value) → List (Addr × Obj) → Prop) (h0 : J 0 m news)
    (step : ∀ I i t m₁ news₁ h tk gs own, Gs gs → i < n → J i m₁ news₁ → (∀ q ∈ news₁, q.1 ≠ I) → (∀ q ∈ own, q.1 = I) → (∃ o, (I, o) ∈ own ∧ NoC o) →
      Fr h₀ L h (fun y => if y = x then some (.int (i : Int) t) else m₁ y) → News h₀ L h (news₁ ++ own) →
      wpAny (model prog w) A (execs bd env) (AfterW h₀ L [I] own Gs { s with heap := h, toks := tk, gens := gs } (J (i + 1)) R) (fun _ _ => False) { s with heap := h, toks := tk, gens := gs })
    (hR : ∀ h tk gs m' news', Gs gs → Fr h₀ L h m' → News h₀ L h news' → J n m' news' → R (.ok .next) { s with heap := h, toks := tk, gens := gs }) :
    wpAny (model prog w) A (pyIter (.ref l)) (fun it s₂ => codeAny (model prog w) A (.forLoop (.Name x p1) it bd [] env) R s₂) E s := by
  have up : ∀ b o, s.heap.get? b = some o → (s.heap.push { cls := .type "range_iterator", data := .fields #[rawInt 0, rawInt (Builtin.Range.rangeSize 0 (n : Int) 1), rawInt 1] }).get? b = some o := fun b o e => Heap.get?_push_of_some _ e
  refine wpAny_pyIter_range hl hsm ?_
  have hI0 : h₀.get? s.heap.objs.size = none := by
    cases q : h₀.get? s.heap.objs.size with
    | none => rfl
    | some o => exact absurd (Nat.lt_of_lt_of_le (Heap.lt_size q) (Nat.le_trans F.above (Nat.le_of_lt F.ns.lt))) (Nat.lt_irrefl _)
  refine forWS Gs (Walks.range hh s.heap.objs.size 0 1 n) hLe hx hp (fun q => ?_) (fun b hb => ?_) ?_ (Fr.keeps F up) (News.grown N up) (fun q hq hb => ?_) hG J h0 ?_ ?_
  · exact absurd (List.mem_singleton.mp q) (Nat.ne_of_lt F.ns.lt)
  · rw [List.mem_singleton.mp hb]; exact hI0
  · show IsRangeIter _ _ _ _ _
    rw [hsz]
    exact Heap.get?_push_size _ rfl
  · exact absurd (List.mem_singleton.mp hb) (Nat.ne_of_lt (Heap.lt_size (N q hq).1))
  · rintro i v m₁ news₁ h tk gs own hS hown hg hi ⟨t, rfl⟩ hJ hn ho F' N'
    have hS : IsRangeIter h _ _ _ _ := hS
    have hIo := PyProof.Rows.mem_ownOf (fp := [s.heap.objs.size]) (.head _) hI0 hS
    rw [← hown] at hIo
    rw [Int.zero_add, Int.mul_one] at F'
    exact step _ i t m₁ news₁ h tk gs own hg hi hJ (fun q hq e => hn q hq (by rw [e]; exact .head _)) (fun q hq => by simpa using ho q hq) ⟨_, hIo, fun vs e q t => by cases e; exact fun x => by cases x⟩ F' N'
  · intro h tk gs m' news' hg F' N' _ hJ
    exact hR h tk gs m' news' hg F' N' hJ
end Mine
end
section
local macro_rules | `(tactic| omega) => `(tactic| lia)
-- part Laid
section
open PySem PySem.W PySem.Calls PyProof.Rows
namespace Mine
noncomputable def isDot (y : Str) : Bool := y.cps.toList.head? == some 46
theorem strValues_at {l : List (Str × Tok)} {i : Nat} {v : Value} (h : (strValues l).toArray[i]? = some v) : ∃ y, l[i]? = some y ∧ v = .str y.1 y.2 := by
  simp only [strValues, List.getElem?_toArray, List.getElem?_map] at h
  obtain ⟨y, hy, rfl⟩ := Option.map_eq_some_iff.mp h
  exact ⟨y, hy, rfl⟩
section
variable {w : World} {A : Around} {s : Shared} {p : Program} {loose : List Str} {mean : ExcName → Option Value} {mg mb : Str → Option Value}

theorem slice_one (y : Str) : Txt.slice y none (some 1) = mkS (y.cps.toList.take 1) := by
  by_cases h : 1 ≤ y.length
  · have := eq_of_beq (slice_closes_toL (x := y) (j := 1) (by decide) (by omega))
    rw [this]; rfl
  · have e : y.cps.toList = [] := by
      have : y.cps.toList.length = 0 := by show y.cps.size = 0; have : y.length = y.cps.size := rfl; omega
      exact List.eq_nil_of_length_eq_zero this
    have e2 : y = ⟨#[]⟩ := by
      cases y with | mk c => simp at e; subst e; rfl
    subst e2
    decide +kernel
theorem dot_slice (y : Str) : (Txt.slice y none (some 1) == Str.ofString ".") = isDot y := by
  rw [slice_one, show Str.ofString "." = mkS [46] by decide +kernel]
  unfold isDot
  cases h : y.cps.toList with
  | nil => decide +kernel
  | cons c r =>
    simp only [List.take_succ_cons, List.take_zero, List.head?_cons]
    by_cases hc : c = 46
    · subst hc; simp
    · have h1 : (mkS [c] == mkS [46]) = false := by simp [mkS, hc]
      rw [h1]; simp [hc]
noncomputable def rowDots (y : Str) : Int := (y.length : Int) - (Txt.lstripChars y (Str.ofString ".")).length - 1
noncomputable def laidS (x : Str) : Int := (((Txt.split (Txt.replace x (Str.ofString "\r") (Str.ofString "\n")) (Str.ofString "\n")).filter isDot).map rowDots).sum
end
section
namespace klaid_spec
noncomputable abbrev V := (World) × (Around) × (Shared) × (Program) × (List Str) × (ExcName → Option Value) × (Str → Option Value) × (Str → Option Value) × (Str) × (Tok)
noncomputable def P (v : V) : Prop :=
  (fun (w : World) (A : Around) (s : Shared) (p : Program) (loose : List Str) (mean : ExcName → Option Value) (mg : Str → Option Value) (mb : Str → Option Value) (x : Str) (t : Tok) =>
  ∀ (hx : x.length ≤ 99999) (X : (hd.heap_39 w.params).In s.heap) (T : Top p loose mean mg mb s.heap) (hroom : A.depth + 5 < recursionLimit) (hh : A.handled = none), codeAny (model PySem.Challenge.rw_rs0108_01.row.prog w) A (.call (.ref 152) ⟨[.str x t], []⟩) (Ret s fun v _ => ∃ t', v = .int (laidS x) t') s)
    v.1 v.2.1 v.2.2.1 v.2.2.2.1 v.2.2.2.2.1 v.2.2.2.2.2.1 v.2.2.2.2.2.2.1 v.2.2.2.2.2.2.2.1 v.2.2.2.2.2.2.2.2.1 v.2.2.2.2.2.2.2.2.2
@[irreducible] noncomputable def v0 : V := @Classical.epsilon V ⟨(aW, callerA, {}, PySem.Challenge.rw_rs0108_01.row.prog, [], fun _ => none, fun _ => none, fun _ => none, ⟨#[]⟩, 0)⟩ fun v => ¬ P v
noncomputable def w : World := v0.1
noncomputable def A : Around := v0.2.1
noncomputable def s : Shared := v0.2.2.1
noncomputable def p : Program := v0.2.2.2.1
noncomputable def loose : List Str := v0.2.2.2.2.1
noncomputable def mean : ExcName → Option Value := v0.2.2.2.2.2.1
noncomputable def mg : Str → Option Value := v0.2.2.2.2.2.2.1
noncomputable def mb : Str → Option Value := v0.2.2.2.2.2.2.2.1
noncomputable def x : Str := v0.2.2.2.2.2.2.2.2.1
noncomputable def t : Tok := v0.2.2.2.2.2.2.2.2.2
set_option maxHeartbeats 8000000 in
theorem main (hx : x.length ≤ 99999) (X : (hd.heap_39 w.params).In s.heap) (T : Top p loose mean mg mb s.heap) (hroom : A.depth + 5 < recursionLimit) (hh : A.handled = none) :
    codeAny (model PySem.Challenge.rw_rs0108_01.row.prog w) A (.call (.ref 152) ⟨[.str x t], []⟩) (Ret s fun v _ => ∃ t', v = .int (laidS x) t') s := by
  w_top off
  revert X
  k_fill
  intro X
  refine enter0 (binds := [(Str.ofString "mail", .str x t)]) X T (by k_is) (by k_is) (by omega) rfl rfl ?_ (by decide) rfl rfl rfl
  intro h₁ F N
  have hlen : (Txt.replace x (Str.ofString "\r") (Str.ofString "\n")).length ≤ 100000 := by
    rw [show Str.ofString "\r" = ⟨#[13]⟩ by decide +kernel, show Str.ofString "\n" = ⟨#[10]⟩ by decide +kernel, StrLaws.replace_one]
    have h1 := StrLaws.join_length_le ⟨#[10]⟩ (Txt.split x ⟨#[13]⟩)
    have h2 := split_weight x ⟨#[13]⟩ (by decide)
    have h3 : Str.length ⟨#[10]⟩ = 1 := rfl
    rw [h3, Nat.mul_one] at h1
    omega
  refine wpAny_execs_cons (LCt.Assign_ListComp_T F rfl rfl rfl (by decide) rfl (by decide) rfl rfl rfl ?_ (fun _ => rfl))
  repeat' (first | with_reducible (show wpAny _ _ (call (.builtin "str.replace") _ _) _ _ _; refine SC.replaceW2 1048576 14 (by decide) (by show @Ne Nat _ _; simp only [List.length_singleton]; omega) (by show @Ne Nat _ _; simp only [List.length_singleton]; omega) (by show @Ne Nat _ _; simp only [List.length_singleton]; omega) (by omega) (by decide) ?_; intro _ _) | with_reducible (show wpAny _ _ (eval (.ListComp ..) _) _ _ _; refine LCg.ListComp_U ‹_› rfl (by decide) rfl (by decide) rfl ?_ (fun _ => rfl)) | walk1)
  rename (List.map _ _ = Txt.split _ _) => hl
  rename Fr _ _ _ _ => F2
  rename News _ _ _ _ => N2
  rename List (Str × Tok) => l
  have hll : l.length ≤ 100002 := by have := len_le_of_split hl; omega
  have hlb : ∀ y ∈ l.map (·.1), y.length ≤ 100000 := fun y hy => Nat.le_trans (part_short (hl ▸ hy)) hlen
  refine LCt.CompSrcT.ledger hh F2 N2 (.head _) (by have : (100002 : Nat) ≤ sizeLine := by decide
                                                    simp only [strValues, List.size_toArray, List.length_map]; omega) fun g => ?_
  refine comp_invT (strValues l).toArray.size (fun i ys news => news = [(_, _)] ∧ ∃ l', ys = strValues l' ∧ l'.map (·.1) = ((l.map (·.1)).take i).filter isDot) ?_ ?_ _ 0 [] _ (by simp) ⟨rfl, [], rfl, rfl⟩
  · rintro i v I oI C oC D m₂ h3 tk3 ys news3 hi hv hC hm F3 N3 off ne ⟨rfl, l', rfl, hl'⟩
    obtain ⟨y, hy, hyv⟩ := strValues_at hv
    subst hyv
    have hyl : (l.map (·.1))[i]? = some y.1 := by rw [List.getElem?_map, hy]; rfl
    have hyb : y.1.length ≤ 100000 := hlb _ (List.mem_of_getElem? hyl)
    obtain ⟨y, yt⟩ := y
    have hpk := take_succ_filter isDot _ _ _ hyl
    repeat' (first | with_reducible (show wpAny _ _ (call (.builtin "str.replace") _ _) _ _ _; refine SC.replaceW2 1048576 14 (by decide) (by show @Ne Nat _ _; simp only [List.length_singleton]; omega) (by show @Ne Nat _ _; simp only [List.length_singleton]; omega) (by show @Ne Nat _ _; simp only [List.length_singleton]; omega) (by omega) (by decide) ?_; intro _ _) | with_reducible (show wpAny _ _ (eval (.ListComp ..) _) _ _ _; refine LCg.ListComp_U ‹_› rfl (by decide) rfl (by decide) rfl ?_ (fun _ => rfl)) | walk1)
    · rename Fr _ _ _ _ => F'
      rename News _ _ _ _ => N'
      rename ((_ == Str.ofString ".") = _) => hd
      rw [dot_slice] at hd
      exact end_same (more := []) F' N' off (.inr ⟨_, .head _, rfl, _, rfl⟩) ⟨rfl, l' ++ [(y, yt)], by simp [strValues], by rw [hpk, ← hl']; simp [hd]⟩
    · rename Fr _ _ _ _ => F'
      rename News _ _ _ _ => N'
      rename ((_ == Str.ofString ".") = _) => hd
      rw [dot_slice] at hd
      exact end_same (more := []) F' N' off (.inr ⟨_, .head _, rfl, _, rfl⟩) ⟨rfl, l', rfl, by rw [hpk, ← hl']; simp [hd]⟩
  · rintro ys news3 ⟨rfl, l', rfl, hl'⟩ D h4 tk4 F4 N4 off4
    have hl2 : l'.map (·.1) = (Txt.split (Txt.replace x (Str.ofString "\r") (Str.ofString "\n")) (Str.ofString "\n")).filter isDot := by
      rw [hl', ← hl, List.take_of_length_le (by simp [strValues])]
    clear hl'
    have hl'l : l'.length ≤ 100002 := by
      have e : l'.length = (l'.map (·.1)).length := by simp
      rw [e, hl2, ← hl]
      exact Nat.le_trans (List.length_filter_le ..) (by simpa using hll)
    have hlb' : ∀ y ∈ l'.map (·.1), y.length ≤ 100000 := fun y hy => hlb y (by rw [hl2, ← hl] at hy; exact (List.mem_filter.mp hy).1)
    dsimp only
    repeat' (first | with_reducible (show wpAny _ _ (call (.builtin "str.replace") _ _) _ _ _; refine SC.replaceW2 1048576 14 (by decide) (by show @Ne Nat _ _; simp only [List.length_singleton]; omega) (by show @Ne Nat _ _; simp only [List.length_singleton]; omega) (by show @Ne Nat _ _; simp only [List.length_singleton]; omega) (by omega) (by decide) ?_; intro _ _) | with_reducible (show wpAny _ _ (eval (.ListComp ..) _) _ _ _; refine LCg.ListComp_U ‹_› rfl (by decide) rfl (by decide) rfl ?_ (fun _ => rfl)) | walk1)
    refine LCg.CompSrc.ledger hh F4 N4 (.head _) (by have : (100002 : Nat) ≤ sizeLine := by decide
                                                     simp only [strValues, List.size_toArray, List.length_map]; omega) fun g2 => ?_
    refine comp_inv (strValues l').toArray.size (fun i ys news => news = [(_, _), (_, _)] ∧ IntsAre ys (((l'.map (·.1)).take i).map rowDots)) ?_ ?_ _ 0 [] _ (by simp) ⟨rfl, by simpa using IntsAre.nil⟩
    · rintro i v I oI C oC D2 m₂ h3 tk3 ys news3 hi hv hC hm F3 N3 off ne ⟨rfl, hys⟩
      obtain ⟨y, hy, hyv⟩ := strValues_at hv
      subst hyv
      have hyl : (l'.map (·.1))[i]? = some y.1 := by rw [List.getElem?_map, hy]; rfl
      have hyb : y.1.length ≤ 100000 := hlb' _ (List.mem_of_getElem? hyl)
      obtain ⟨y, yt⟩ := y
      dsimp only at hyb hyl
      repeat' (first | with_reducible (show wpAny _ _ (call (.builtin "str.replace") _ _) _ _ _; refine SC.replaceW2 1048576 14 (by decide) (by show @Ne Nat _ _; simp only [List.length_singleton]; omega) (by show @Ne Nat _ _; simp only [List.length_singleton]; omega) (by show @Ne Nat _ _; simp only [List.length_singleton]; omega) (by omega) (by decide) ?_; intro _ _) | with_reducible (show wpAny _ _ (eval (.ListComp ..) _) _ _ _; refine LCg.ListComp_U ‹_› rfl (by decide) rfl (by decide) rfl ?_ (fun _ => rfl)) | walk1)
      show LCg.CompEnd _ _ _ _ _ _ _ _ _ _ _ _ _ _
      refine end_same (more := []) F3 N3 off (.inr ⟨_, .head _, rfl, _, rfl⟩) ⟨rfl, ?_⟩
      rw [List.take_add_one, hyl, List.map_append]
      exact hys.append (.cons _ _ .nil)
    · rintro ys news3 ⟨rfl, hys⟩ D2 h5 tk5 F5 N5 off5
      rw [List.take_of_length_le (by simp [strValues]), hl2] at hys
      dsimp only
      repeat' (first | with_reducible (show wpAny _ _ (call (.builtin "str.replace") _ _) _ _ _; refine SC.replaceW2 1048576 14 (by decide) (by show @Ne Nat _ _; simp only [List.length_singleton]; omega) (by show @Ne Nat _ _; simp only [List.length_singleton]; omega) (by show @Ne Nat _ _; simp only [List.length_singleton]; omega) (by omega) (by decide) ?_; intro _ _) | with_reducible (show wpAny _ _ (eval (.ListComp ..) _) _ _ _; refine LCg.ListComp_U ‹_› rfl (by decide) rfl (by decide) rfl ?_ (fun _ => rfl)) | walk1)
      refine sumK hh F5 N5 (News.isList N5 (.head _)) hys fun h' tk' t' F' N' => ?_
      exact ⟨_, _, _, rfl, rfl, F'.keep, _, rfl⟩
theorem all (v : V) : P v := byEps (v0 := v0) (by unfold v0; rfl) main v
end klaid_spec
theorem laid_spec {w : World} {A : Around} {s : Shared} {p : Program} {loose : List Str} {mean : ExcName → Option Value} {mg : Str → Option Value} {mb : Str → Option Value} {x : Str} {t : Tok} (hx : x.length ≤ 99999) (X : (hd.heap_39 w.params).In s.heap) (T : Top p loose mean mg mb s.heap) (hroom : A.depth + 5 < recursionLimit) (hh : A.handled = none) :
    codeAny (model PySem.Challenge.rw_rs0108_01.row.prog w) A (.call (.ref 152) ⟨[.str x t], []⟩) (Ret s fun v _ => ∃ t', v = .int (laidS x) t') s := klaid_spec.all (w, A, s, p, loose, mean, mg, mb, x, t) hx X T hroom hh
end
end Mine
end
-- part Text
section
open PySem PySem.W PySem.Calls PyProof.Rows
namespace Mine
noncomputable def aheadL (c : Int) : List Nat := if (c.fdiv 64).fmod 4 = 0 then [] else if (c.fdiv 64).fmod 4 = 1 then [92, 41, 92, 92] else if (c.fdiv 64).fmod 4 = 2 then [34, 41, 92, 92, 34, 92, 40] else [34, 92, 34, 41, 41, 34]
noncomputable def textL (r : List Nat) (cs ds : List Int) : List Nat := ds.flatMap fun k => aheadL (cs.getD k.toNat 0) ++ [r.getD k.toNat 0]
theorem join_mk {α : Type} (f : α → List Nat) (l : List α) : Txt.join ⟨#[]⟩ (l.map fun k => mkS (f k)) = mkS (l.flatMap f) := by
  have := join_flat (l.map fun k => (f k).toArray)
  rw [strL, List.map_map] at this
  rw [show (l.map fun k => mkS (f k)) = l.map ((fun a => (⟨a⟩ : Str)) ∘ fun k => (f k).toArray) from rfl, this, List.flatMap_map]
theorem ah0 {c : Int} {z : List Nat} (h : (c.fdiv 64).fmod 4 = 0) : mkS (aheadL c ++ z) = Str.ofString "" ++ mkS z := by
  rw [← mk_app]; congr 1; unfold aheadL; rw [h]; decide +kernel
theorem ah1 {c : Int} {z : List Nat} (h : (c.fdiv 64).fmod 4 = 1) : mkS (aheadL c ++ z) = Str.ofString "\\)\\\\" ++ mkS z := by
  rw [← mk_app]; congr 1; unfold aheadL; rw [h]; decide +kernel
theorem ah2 {c : Int} {z : List Nat} (h : (c.fdiv 64).fmod 4 = 2) : mkS (aheadL c ++ z) = Str.ofString "\")\\\\\"\\(" ++ mkS z := by
  rw [← mk_app]; congr 1; unfold aheadL; rw [h]; decide +kernel
theorem ah3 {c : Int} {z : List Nat} (h : (c.fdiv 64).fmod 4 = 3) : mkS (aheadL c ++ z) = Str.ofString "\"\\\"))\"" ++ mkS z := by
  rw [← mk_app]; congr 1; unfold aheadL; rw [h]; decide +kernel
section
variable {w : World} {A : Around} {s : Shared} {p : Program} {loose : List Str} {mean : ExcName → Option Value} {mg mb : Str → Option Value}

theorem ring_at {M : Program} {E : Value → Shared → Prop} {value slice : Expr} {r : List Nat} {tr u : Tok} {k : Int} {Q : Value → Shared → Prop} (h0 : 0 ≤ k) (h1 : k < r.length) (hr : r.length ≤ 9)
    (h : ∀ t' tk, Q (.str (mkS [r.getD k.toNat 0]) t') { s with toks := tk })
    (hs : subscripted slice false (.str (mkS r) tr) (.int k u) = operate [.str (mkS r) tr, .int k u] (getItem (.str (mkS r) tr) (.int k u)) := by with_unfolding_all rfl) (ht : ∀ v, letTemporaryGo value (.str (mkS r) tr) v = pure () := by intro _; with_unfolding_all rfl) :
    wpAny (model M w) A (subscriptTail value slice (.str (mkS r) tr) (.int k u)) Q E s := by
  refine subscriptTail_builtin (typeIs_str _ _ _) F.slot_str_getitem.lookup (P.getItem_str (c := r.getD k.toNat 0) ?_ ?_ ?_) hs ht
  · simp; omega
  · have e1 : seqIndex? k (mkS r).length = some k.toNat := by
      have e0 : (mkS r).length = r.length := by simp [mkS, Str.length]
      unfold seqIndex?
      rw [e0]
      have h2 : ¬ k < 0 := by omega
      simp [h2, h0, h1]
    rw [e1]
    have h3 : k.toNat < r.length := by omega
    simp [mkS, h3]
  · exact h _ _
end
section
namespace ktext_spec
noncomputable abbrev V := (World) × (Around) × (Shared) × (Program) × (List Str) × (ExcName → Option Value) × (Str → Option Value) × (Str → Option Value) × (Addr) × (Addr) × (List Value) × (List Value) × (List Int) × (List Int) × (List Nat) × (Tok)
noncomputable def P (v : V) : Prop :=
  (fun (w : World) (A : Around) (s : Shared) (p : Program) (loose : List Str) (mean : ExcName → Option Value) (mg : Str → Option Value) (mb : Str → Option Value) (d : Addr) (C : Addr) (vd : List Value) (vs : List Value) (ds : List Int) (ns : List Int) (r : List Nat) (tr : Tok) =>
  ∀ (hD : s.heap.IsList d vd.toArray) (hdi : IntsAre vd ds) (hC : s.heap.IsList C vs.toArray) (hi : IntsAre vs ns) (h11 : ns.length = 11) (hr : r.length ≤ 9) (hds : ∀ k ∈ ds, 0 ≤ k ∧ k < r.length) (hdl : ds.length ≤ 20) (X : (hd.heap_39 w.params).In s.heap) (T : Top p loose mean mg mb s.heap) (hroom : A.depth + 5 < recursionLimit) (hh : A.handled = none), codeAny (model PySem.Challenge.rw_rs0108_01.row.prog w) A (.call (.ref 157) ⟨[.ref d, .str (mkS r) tr, .ref C], []⟩) (Ret s fun v _ => ∃ t', v = .str (mkS (textL r ns ds)) t') s)
    v.1 v.2.1 v.2.2.1 v.2.2.2.1 v.2.2.2.2.1 v.2.2.2.2.2.1 v.2.2.2.2.2.2.1 v.2.2.2.2.2.2.2.1 v.2.2.2.2.2.2.2.2.1 v.2.2.2.2.2.2.2.2.2.1 v.2.2.2.2.2.2.2.2.2.2.1 v.2.2.2.2.2.2.2.2.2.2.2.1 v.2.2.2.2.2.2.2.2.2.2.2.2.1 v.2.2.2.2.2.2.2.2.2.2.2.2.2.1 v.2.2.2.2.2.2.2.2.2.2.2.2.2.2.1 v.2.2.2.2.2.2.2.2.2.2.2.2.2.2.2
@[irreducible] noncomputable def v0 : V := @Classical.epsilon V ⟨(aW, callerA, {}, PySem.Challenge.rw_rs0108_01.row.prog, [], fun _ => none, fun _ => none, fun _ => none, 0, 0, [], [], [], [], [], 0)⟩ fun v => ¬ P v
noncomputable def w : World := v0.1
noncomputable def A : Around := v0.2.1
noncomputable def s : Shared := v0.2.2.1
noncomputable def p : Program := v0.2.2.2.1
noncomputable def loose : List Str := v0.2.2.2.2.1
noncomputable def mean : ExcName → Option Value := v0.2.2.2.2.2.1
noncomputable def mg : Str → Option Value := v0.2.2.2.2.2.2.1
noncomputable def mb : Str → Option Value := v0.2.2.2.2.2.2.2.1
noncomputable def d : Addr := v0.2.2.2.2.2.2.2.2.1
noncomputable def C : Addr := v0.2.2.2.2.2.2.2.2.2.1
noncomputable def vd : List Value := v0.2.2.2.2.2.2.2.2.2.2.1
noncomputable def vs : List Value := v0.2.2.2.2.2.2.2.2.2.2.2.1
noncomputable def ds : List Int := v0.2.2.2.2.2.2.2.2.2.2.2.2.1
noncomputable def ns : List Int := v0.2.2.2.2.2.2.2.2.2.2.2.2.2.1
noncomputable def r : List Nat := v0.2.2.2.2.2.2.2.2.2.2.2.2.2.2.1
noncomputable def tr : Tok := v0.2.2.2.2.2.2.2.2.2.2.2.2.2.2.2
set_option maxHeartbeats 8000000 in
theorem main (hD : s.heap.IsList d vd.toArray) (hdi : IntsAre vd ds) (hC : s.heap.IsList C vs.toArray) (hi : IntsAre vs ns) (h11 : ns.length = 11) (hr : r.length ≤ 9) (hds : ∀ k ∈ ds, 0 ≤ k ∧ k < r.length) (hdl : ds.length ≤ 20) (X : (hd.heap_39 w.params).In s.heap) (T : Top p loose mean mg mb s.heap) (hroom : A.depth + 5 < recursionLimit) (hh : A.handled = none) :
    codeAny (model PySem.Challenge.rw_rs0108_01.row.prog w) A (.call (.ref 157) ⟨[.ref d, .str (mkS r) tr, .ref C], []⟩) (Ret s fun v _ => ∃ t', v = .str (mkS (textL r ns ds)) t') s := by
  w_top off
  revert X
  k_fill
  intro X
  refine enterC (g := s.heap) (binds := [(Str.ofString "deeds", .ref d), (Str.ofString "ring", .str (mkS r) tr), (Str.ofString "cells", .ref C)]) (fun _ _ e => e) (Nat.le_refl _) X T (by k_is) (by k_is) (by omega) rfl rfl (by decide +kernel) ?_ rfl rfl rfl
  intro h₁ tk cells F hk N Y
  k_cells Y
  rename_i o1 o2 o3 d1 d2 d3
  replace d1 : o1.data = .cell none := d1
  replace d2 : o2.data = .cell (some (.ref C)) := d2
  replace d3 : o3.data = .cell (some (.str (mkS r) tr)) := d3
  replace F : Fr s.heap s.heap.objs.size h₁ (fun y => if y = Str.ofString "deeds" then some (.ref d) else none) := F
  repeat' (first | with_reducible (show wpAny _ _ (eval (.ListComp ..) _) _ _ _; refine LCg.ListComp_U ‹_› rfl (by decide) rfl (by decide) rfl ?_ (fun _ => rfl)) | ((with_reducible show wpAny _ _ (subscriptTail _ _ (Value.str _ _) (Value.int _ _)) _ _ _); refine ring_at ‹_› ‹_› ‹_› ?_; intro _ _) | walk1)
  rename Fr _ _ _ _ => F2
  rename News _ _ _ _ => N2
  have hvd : vd.toArray.size = ds.length := by simp [hdi.length]
  refine LCg.CompSrc.base hh F2 N2 hD (by have : (20 : Nat) ≤ sizeLine := by decide
                                          omega) fun g => ?_
  rw [hvd]
  refine comp_inv ds.length (fun i ys news => news = [(_, _), (_, _), (_, _), (_, _)] ∧ ∃ l', ys = strValues l' ∧ l'.map (·.1) = (ds.take i).map fun k => mkS (aheadL (ns.getD k.toNat 0) ++ [r.getD k.toNat 0])) ?_ ?_ _ 0 [] _ (by simp) ⟨rfl, [], rfl, rfl⟩
  · rintro i v I oI Cc oC D m₂ h3 tk3 ys news3 hi3 hv hC3 hm F3 N3 off ne ⟨rfl, l', rfl, hl'⟩
    obtain ⟨k, hk3⟩ : ∃ k, ds[i]? = some k := ⟨_, List.getElem?_eq_getElem hi3⟩
    obtain ⟨t3, ht3⟩ := hdi.get i k hk3
    rw [List.getElem?_toArray, ht3] at hv
    cases hv
    obtain ⟨hk0, hk1⟩ := hds k (List.mem_of_getElem? hk3)
    repeat' (first | with_reducible (show wpAny _ _ (eval (.ListComp ..) _) _ _ _; refine LCg.ListComp_U ‹_› rfl (by decide) rfl (by decide) rfl ?_ (fun _ => rfl)) | ((with_reducible show wpAny _ _ (subscriptTail _ _ (Value.str _ _) (Value.int _ _)) _ _ _); refine ring_at ‹_› ‹_› ‹_› ?_; intro _ _) | walk1)
    all_goals
      show LCg.CompEnd _ _ _ _ _ _ _ _ _ _ _ _ _ _
      rename (Int.fmod (Int.fdiv _ 64) 4 = _) => e4
      refine end_same (more := []) F3 N3 off (.inl hD) ⟨rfl, l' ++ [(_, _)], by simp [strValues]; exact ⟨rfl, rfl⟩, ?_⟩
      rw [List.take_add_one, hk3, List.map_append, List.map_append, hl']
      congr 1
      simp only [Option.toList_some, List.map_cons, List.map_nil]
      first
        | rw [ah0 e4]
        | rw [ah1 e4]
        | rw [ah2 e4]
        | rw [ah3 e4]
      simp only [List.getD_eq_getElem?_getD]
  · rintro ys news3 ⟨rfl, l', rfl, hl'⟩ D2 h5 tk5 F5 N5 off5
    rw [List.take_of_length_le (Nat.le_refl _)] at hl'
    dsimp only
    repeat' (first | with_reducible (show wpAny _ _ (eval (.ListComp ..) _) _ _ _; refine LCg.ListComp_U ‹_› rfl (by decide) rfl (by decide) rfl ?_ (fun _ => rfl)) | ((with_reducible show wpAny _ _ (subscriptTail _ _ (Value.str _ _) (Value.int _ _)) _ _ _); refine ring_at ‹_› ‹_› ‹_› ?_; intro _ _) | walk1)
    refine SC.join (News.isList N5 (.head _)) hl' (joinOk_of ?_) fun t' k' => ?_
    · have := StrLaws.sumLen_le (B := 8) (ds.map fun k => mkS (aheadL (ns.getD k.toNat 0) ++ [r.getD k.toNat 0])) (fun y hy => ?_)
      · rw [show Str.length (Str.ofString "") = 0 by decide +kernel, Nat.mul_zero]
        rw [List.length_map] at this
        omega
      · obtain ⟨k, _, rfl⟩ := List.mem_map.mp hy
        have h7 : (aheadL (ns.getD k.toNat 0)).length ≤ 7 := by unfold aheadL; split <;> (try split) <;> (try split) <;> simp
        show (List.toArray _).size ≤ 8
        rw [List.size_toArray, List.length_append]
        simp only [List.length_singleton]
        omega
    · repeat' (first | with_reducible (show wpAny _ _ (eval (.ListComp ..) _) _ _ _; refine LCg.ListComp_U ‹_› rfl (by decide) rfl (by decide) rfl ?_ (fun _ => rfl)) | ((with_reducible show wpAny _ _ (subscriptTail _ _ (Value.str _ _) (Value.int _ _)) _ _ _); refine ring_at ‹_› ‹_› ‹_› ?_; intro _ _) | walk1)
      refine ⟨_, _, _, rfl, rfl, F5.keep, t', ?_⟩
      rw [show Str.ofString "" = ⟨#[]⟩ by decide +kernel, join_mk]
      rfl
theorem all (v : V) : P v := byEps (v0 := v0) (by unfold v0; rfl) main v
end ktext_spec
theorem text_spec {w : World} {A : Around} {s : Shared} {p : Program} {loose : List Str} {mean : ExcName → Option Value} {mg : Str → Option Value} {mb : Str → Option Value} {d C : Addr} {vd vs : List Value} {ds ns : List Int} {r : List Nat} {tr : Tok} (hD : s.heap.IsList d vd.toArray) (hdi : IntsAre vd ds) (hC : s.heap.IsList C vs.toArray) (hi : IntsAre vs ns) (h11 : ns.length = 11) (hr : r.length ≤ 9) (hds : ∀ k ∈ ds, 0 ≤ k ∧ k < r.length) (hdl : ds.length ≤ 20) (X : (hd.heap_39 w.params).In s.heap) (T : Top p loose mean mg mb s.heap) (hroom : A.depth + 5 < recursionLimit) (hh : A.handled = none) :
    codeAny (model PySem.Challenge.rw_rs0108_01.row.prog w) A (.call (.ref 157) ⟨[.ref d, .str (mkS r) tr, .ref C], []⟩) (Ret s fun v _ => ∃ t', v = .str (mkS (textL r ns ds)) t') s := ktext_spec.all (w, A, s, p, loose, mean, mg, mb, d, C, vd, vs, ds, ns, r, tr) hD hdi hC hi h11 hr hds hdl X T hroom hh
end
end Mine
end
-- part Due
section
open PySem PySem.W PySem.Calls PyProof.Rows
namespace Mine
noncomputable def isO (r : List Nat) (k : Int) : Bool := r.getD k.toNat 0 == 40
noncomputable def lastO (r : List Nat) (ts : List Int) : Int := (ts.filter (isO r)).getD ((ts.filter (isO r)).length - 1) 0
noncomputable def dueStep (r : List Nat) (ns : List Int) (last : Int) (q : Int × List Nat) (k : Int) : Int × List Nat :=
  if isO r k then (q.1, q.2 ++ List.replicate (1 + q.1).toNat 46 ++ tailL (ns.getD k.toNat 0) ++ (if 0 < q.1 then sentL (k == last) (ns.getD k.toNat 0) else endL (k == last) (ns.getD k.toNat 0)))
  else (q.1 - 1, q.2)
noncomputable def dueL (r : List Nat) (ns ts : List Int) : List Nat := (ts.foldl (dueStep r ns (lastO r ts)) ((r.count 41 : Int), [])).2
theorem tail_len (c : Int) : (tailL c).length ≤ 2 := by unfold tailL; split <;> (try split) <;> (try split) <;> simp
theorem end_len (b : Bool) (c : Int) : (endL b c).length ≤ 5 := by unfold endL; split <;> (try split) <;> (try split) <;> (try split) <;> simp
theorem sent_len (b : Bool) (c : Int) : (sentL b c).length ≤ 8 := by unfold sentL; split <;> (try split) <;> simp
theorem due_bounds (r : List Nat) (ns : List Int) (last : Int) : ∀ (l : List Int) (q : Int × List Nat), q.1 ≤ 9 → q.1 - l.length ≤ (l.foldl (dueStep r ns last) q).1 ∧ (l.foldl (dueStep r ns last) q).1 ≤ q.1 ∧ (l.foldl (dueStep r ns last) q).2.length ≤ q.2.length + 40 * l.length
  | [], q, _ => by simp
  | k :: l, q, h => by
    rw [List.foldl_cons]
    have e1 : (dueStep r ns last q k).1 ≤ q.1 ∧ q.1 - 1 ≤ (dueStep r ns last q k).1 ∧ (dueStep r ns last q k).2.length ≤ q.2.length + 40 := by
      unfold dueStep
      split
      · refine ⟨by simp, by simp; omega, ?_⟩
        have h1 := tail_len (ns.getD k.toNat 0)
        have h2 := end_len (k == last) (ns.getD k.toNat 0)
        have h3 := sent_len (k == last) (ns.getD k.toNat 0)
        simp only [List.length_append, List.length_replicate]
        split <;> omega
      · exact ⟨by simp; omega, by simp, by simp⟩
    obtain ⟨a, b, c⟩ := due_bounds r ns last l (dueStep r ns last q k) (by omega)
    simp only [List.length_cons]
    refine ⟨by push_cast; omega, by omega, by omega⟩
theorem fold_rep : ∀ (n : Nat) (a : Array Nat), (List.replicate n (#[46] : Array Nat)).foldl (· ++ ·) a = a ++ (List.replicate n 46).toArray
  | 0, a => by simp
  | n + 1, a => by
    rw [List.replicate_succ, List.foldl_cons, fold_rep n, List.replicate_succ]
    apply Array.ext'
    simp
theorem mul_dot (n : Int) : Txt.mul (Str.ofString ".") n = mkS (List.replicate n.toNat 46) := by
  rw [show Str.ofString "." = mkS [46] by decide +kernel]
  unfold Txt.mul
  split
  · rename_i h
    have : n.toNat = 0 := by omega
    rw [this]; rfl
  · split
    · rename_i h1 h2
      have h3 : n = 1 := by simpa [mkS, Str.length] using h2
      subst h3
      rfl
    · have := fold_rep n.toNat #[]
      rw [show (mkS [46]).cps = #[46] from rfl, this]
      simp [mkS]
noncomputable def DInv (L : Addr) (o1 : Obj) (C : Addr) (last : Int) (f : Nat → Int × List Nat) (i : Nat) (m : Str → Option Value) (news : List (Addr × Obj)) : Prop :=
  ∃ t1 t2 t3, m (Str.ofString "later") = some (.int (f i).1 t1) ∧ m (Str.ofString "due") = some (.str (mkS (f i).2) t2) ∧ m (Str.ofString "last") = some (.int last t3) ∧ m (Str.ofString "cells") = some (.ref C) ∧ news = [(L + 1, o1)]
theorem dinv_of {L : Addr} {o1 : Obj} {C : Addr} {last : Int} {f : Nat → Int × List Nat} {i : Nat} {m : Str → Option Value} {news : List (Addr × Obj)} {a : Int} {d : List Nat} {t1 t2 t3 : Tok} {S : Str} (e : f i = (a, d))
    (h1 : m (Str.ofString "later") = some (.int a t1)) (h2 : m (Str.ofString "due") = some (.str S t2)) (h3 : m (Str.ofString "last") = some (.int last t3)) (h4 : m (Str.ofString "cells") = some (.ref C)) (h5 : news = [(L + 1, o1)]) (hS : S = mkS d := by rfl) : DInv L o1 C last f i m news :=
  ⟨t1, t2, t3, by rw [e]; exact h1, by rw [e, ← hS]; exact h2, h3, h4, h5⟩
theorem use_row {w : World} {A : Around} {s : Shared} {p : Program} {loose : List Str} {mean : ExcName → Option Value} {mg mb : Str → Option Value} {c : Int} {t : Tok} {b : Bool} {h₀ : Heap} {L : Addr} {m : Str → Option Value} {news : List (Addr × Obj)} {E : Value → Shared → Prop} {Q : Value → Shared → Prop} (X : (hd.heap_39 w.params).In h₀) (T : Top p loose mean mg mb h₀) (F : Fr h₀ L s.heap m) (N : News h₀ L s.heap news) (hroom : A.depth + 5 < recursionLimit) (hh : A.handled = none)
    (h : ∀ h' tk D t1 t2 t3, Fr h₀ L h' m → News h₀ L h' news → h'.IsTuple D #[.str (mkS (tailL c)) t1, .str (mkS (endL b c)) t2, .str (mkS (sentL b c)) t3] → Q (.ref D) { s with heap := h', toks := tk }) :
    wpAny (model PySem.Challenge.rw_rs0108_01.row.prog w) A (call (.ref 137) [.int c t, .bool b]) Q E s := by
  refine use_fr F N (row_spec (X.keeps F.keep) (T.keeps F.keep) hroom hh) ?_
  rintro v h' tk F' N' ⟨D, S1, S2, S3, t1, t2, t3, rfl, hT, rfl, rfl, rfl⟩
  exact h h' tk D t1 t2 t3 F' N' hT
theorem assign3 {prog : Program} {w : World} {A : Around} {s : Shared} {h₀ : Heap} {L f D : Addr} {m : Str → Option Value} {news : List (Addr × Obj)} {cn : Str} {cs : Scope} {ccd : Value} {cl : List (Str × Addr)} {a b c : Str} {p1 p2 p3 pos : Pos} {k : Nat} {v1 v2 v3 : Value} {E : Value → Shared → Prop} {Q : Unit → Shared → Prop}
    (hh : A.handled = none) (F : Fr h₀ L s.heap m) (N : News h₀ L s.heap news) (hT : s.heap.IsTuple D #[v1, v2, v3]) (hk : cs.kind = .function) (ha : (envX cn cs L f ccd cl).kindOf a = some .local) (hb : (envX cn cs L f ccd cl).kindOf b = some .local) (hc : (envX cn cs L f ccd cl).kindOf c = some .local)
    (h : ∀ h' tk, Fr h₀ L h' (fun y => if y = c then some v3 else if y = b then some v2 else if y = a then some v1 else m y) → News h₀ L h' news → Q () { s with heap := h', toks := tk }) :
    wpAny (model prog w) A (assign (.Tuple [.Name a p1, .Name b p2, .Name c p3] k pos) (envX cn cs L f ccd cl) (.ref D)) Q E s := by
  refine wpAny_assign_Tuple hh hT rfl rfl fun h₃ hx₃ => ?_
  have k₃ : ∀ b o, s.heap.get? b = some o → h₃.get? b = some o := fun b o e => hx₃ b o (Nat.ne_of_lt (Heap.lt_size e)) e
  refine wpAny_bind (wpAny_holding (wpAny_assign_Name (storeX_L (Fr.keeps F k₃) (News.grown N k₃) (fun h₄ F₄ N₄ => ?_) hk ha)))
  refine wpAny_bind (wpAny_holding (wpAny_assign_Name (storeX_L F₄ N₄ (fun h₅ F₅ N₅ => ?_) hk hb)))
  refine wpAny_bind (wpAny_holding (wpAny_assign_Name (storeX_L F₅ N₅ (fun h₆ F₆ N₆ => wpAny_pure ?_) hk hc)))
  exact h h₆ _ F₆ N₆
section
variable {w : World} {A : Around} {s : Shared} {p : Program} {loose : List Str} {mean : ExcName → Option Value} {mg mb : Str → Option Value}

end
section
namespace kdue_spec
noncomputable abbrev V := (World) × (Around) × (Shared) × (Program) × (List Str) × (ExcName → Option Value) × (Str → Option Value) × (Str → Option Value) × (Addr) × (Addr) × (List Value) × (List Value) × (List Int) × (List Int) × (List Nat) × (Tok)
noncomputable def P (v : V) : Prop :=
  (fun (w : World) (A : Around) (s : Shared) (p : Program) (loose : List Str) (mean : ExcName → Option Value) (mg : Str → Option Value) (mb : Str → Option Value) (d : Addr) (C : Addr) (vd : List Value) (vs : List Value) (ts : List Int) (ns : List Int) (r : List Nat) (tr : Tok) =>
  ∀ (hD : s.heap.IsList d vd.toArray) (hdi : IntsAre vd ts) (hC : s.heap.IsList C vs.toArray) (hi : IntsAre vs ns) (h11 : ns.length = 11) (hr : r.length ≤ 9) (hds : ∀ k ∈ ts, 0 ≤ k ∧ k < r.length) (hdl : ts.length ≤ 9) (hne : (ts.filter (isO r)) ≠ []) (X : (hd.heap_39 w.params).In s.heap) (T : Top p loose mean mg mb s.heap) (hroom : A.depth + 9 < recursionLimit) (hh : A.handled = none), codeAny (model PySem.Challenge.rw_rs0108_01.row.prog w) A (.call (.ref 147) ⟨[.ref d, .str (mkS r) tr, .ref C], []⟩) (Ret s fun v _ => ∃ t', v = .str (mkS (dueL r ns ts)) t') s)
    v.1 v.2.1 v.2.2.1 v.2.2.2.1 v.2.2.2.2.1 v.2.2.2.2.2.1 v.2.2.2.2.2.2.1 v.2.2.2.2.2.2.2.1 v.2.2.2.2.2.2.2.2.1 v.2.2.2.2.2.2.2.2.2.1 v.2.2.2.2.2.2.2.2.2.2.1 v.2.2.2.2.2.2.2.2.2.2.2.1 v.2.2.2.2.2.2.2.2.2.2.2.2.1 v.2.2.2.2.2.2.2.2.2.2.2.2.2.1 v.2.2.2.2.2.2.2.2.2.2.2.2.2.2.1 v.2.2.2.2.2.2.2.2.2.2.2.2.2.2.2
@[irreducible] noncomputable def v0 : V := @Classical.epsilon V ⟨(aW, callerA, {}, PySem.Challenge.rw_rs0108_01.row.prog, [], fun _ => none, fun _ => none, fun _ => none, 0, 0, [], [], [], [], [], 0)⟩ fun v => ¬ P v
noncomputable def w : World := v0.1
noncomputable def A : Around := v0.2.1
noncomputable def s : Shared := v0.2.2.1
noncomputable def p : Program := v0.2.2.2.1
noncomputable def loose : List Str := v0.2.2.2.2.1
noncomputable def mean : ExcName → Option Value := v0.2.2.2.2.2.1
noncomputable def mg : Str → Option Value := v0.2.2.2.2.2.2.1
noncomputable def mb : Str → Option Value := v0.2.2.2.2.2.2.2.1
noncomputable def d : Addr := v0.2.2.2.2.2.2.2.2.1
noncomputable def C : Addr := v0.2.2.2.2.2.2.2.2.2.1
noncomputable def vd : List Value := v0.2.2.2.2.2.2.2.2.2.2.1
noncomputable def vs : List Value := v0.2.2.2.2.2.2.2.2.2.2.2.1
noncomputable def ts : List Int := v0.2.2.2.2.2.2.2.2.2.2.2.2.1
noncomputable def ns : List Int := v0.2.2.2.2.2.2.2.2.2.2.2.2.2.1
noncomputable def r : List Nat := v0.2.2.2.2.2.2.2.2.2.2.2.2.2.2.1
noncomputable def tr : Tok := v0.2.2.2.2.2.2.2.2.2.2.2.2.2.2.2
set_option maxHeartbeats 8000000 in
theorem main (hD : s.heap.IsList d vd.toArray) (hdi : IntsAre vd ts) (hC : s.heap.IsList C vs.toArray) (hi : IntsAre vs ns) (h11 : ns.length = 11) (hr : r.length ≤ 9) (hds : ∀ k ∈ ts, 0 ≤ k ∧ k < r.length) (hdl : ts.length ≤ 9) (hne : (ts.filter (isO r)) ≠ []) (X : (hd.heap_39 w.params).In s.heap) (T : Top p loose mean mg mb s.heap) (hroom : A.depth + 9 < recursionLimit) (hh : A.handled = none) :
    codeAny (model PySem.Challenge.rw_rs0108_01.row.prog w) A (.call (.ref 147) ⟨[.ref d, .str (mkS r) tr, .ref C], []⟩) (Ret s fun v _ => ∃ t', v = .str (mkS (dueL r ns ts)) t') s := by
  w_top off
  revert X
  k_fill
  intro X
  refine enterC (g := s.heap) (binds := [(Str.ofString "turn", .ref d), (Str.ofString "ring", .str (mkS r) tr), (Str.ofString "cells", .ref C)]) (fun _ _ e => e) (Nat.le_refl _) X T (by k_is) (by k_is) (by omega) rfl rfl (by decide +kernel) ?_ rfl rfl rfl
  intro h₁ tk cells F hk N Y
  k_cells Y
  rename_i o1 d1
  replace d1 : o1.data = .cell (some (.str (mkS r) tr)) := d1
  replace F : Fr s.heap s.heap.objs.size h₁ (fun y => if y = Str.ofString "cells" then some (.ref C) else if y = Str.ofString "turn" then some (.ref d) else none) := F
  refine wp_cut 3 _ ?_
  dsimp only [List.take, List.drop]
  repeat' (first | ((with_reducible show wpAny _ _ (call (.ref _) _ _) _ _ _); refine use_row ‹_› ‹_› ‹_› ‹_› (by show _ + 1 + 5 < recursionLimit; omega) ‹_› ?_; intro _ _ _ _ _ _ _ _ _) | with_reducible (show wpAny _ _ (eval (.ListComp ..) _) _ _ _; refine LCt.ListComp_T ‹_› rfl (by decide) rfl (by decide) rfl ?_ (fun _ => rfl)) | ((with_reducible show wpAny _ _ (subscriptTail _ _ (Value.str _ _) (Value.int _ _)) _ _ _); refine ring_at ‹_› ‹_› ‹_› ?_; intro _ _) | walk1)
  rename Fr _ _ _ _ => F2
  rename News _ _ _ _ => N2
  have hvd : vd.toArray.size = ts.length := by simp [hdi.length]
  refine LCt.CompSrcT.base hh F2 N2 hD (by have : (20 : Nat) ≤ sizeLine := by decide
                                           omega) fun g => ?_
  rw [hvd]
  refine comp_invT ts.length (fun i ys news => news = [(_, _)] ∧ IntsAre ys ((ts.take i).filter (isO r))) ?_ ?_ _ 0 [] _ (by simp) ⟨rfl, .nil⟩
  · rintro i v I oI Cc oC D m₂ h3 tk3 ys news3 hi3 hv hC3 hm F3 N3 off ne ⟨rfl, hys⟩
    obtain ⟨k, hk3⟩ : ∃ k, ts[i]? = some k := ⟨_, List.getElem?_eq_getElem hi3⟩
    obtain ⟨t3, ht3⟩ := hdi.get i k hk3
    rw [List.getElem?_toArray, ht3] at hv
    cases hv
    obtain ⟨hk0, hk1⟩ := hds k (List.mem_of_getElem? hk3)
    have hpk := take_succ_filter (isO r) _ _ _ hk3
    repeat' (first | ((with_reducible show wpAny _ _ (call (.ref _) _ _) _ _ _); refine use_row ‹_› ‹_› ‹_› ‹_› (by show _ + 1 + 5 < recursionLimit; omega) ‹_› ?_; intro _ _ _ _ _ _ _ _ _) | with_reducible (show wpAny _ _ (eval (.ListComp ..) _) _ _ _; refine LCt.ListComp_T ‹_› rfl (by decide) rfl (by decide) rfl ?_ (fun _ => rfl)) | ((with_reducible show wpAny _ _ (subscriptTail _ _ (Value.str _ _) (Value.int _ _)) _ _ _); refine ring_at ‹_› ‹_› ‹_› ?_; intro _ _) | walk1)
    · rename ((mkS _ == _) = _) => hc
      have hc' : isO r k = true := by unfold isO; rw [is40] at hc; simpa using hc
      exact end_same (more := []) F3 N3 off (.inl hD) ⟨rfl, by rw [hpk, hc']; exact hys.append (.cons _ _ .nil)⟩
    · rename ((mkS _ == _) = _) => hc
      have hc' : isO r k = false := by
        cases q : isO r k with
        | false => rfl
        | true => unfold isO at q; rw [is40.mpr (by simpa using q)] at hc; cases hc
      exact end_same (more := []) F3 N3 off (.inl hD) ⟨rfl, by rw [hpk, hc']; simpa using hys⟩
  · rintro ys news3 ⟨rfl, hys⟩ D2 h5 tk5 F5 N5 off5
    rw [List.take_of_length_le (Nat.le_refl _)] at hys
    dsimp only
    repeat' (first | ((with_reducible show wpAny _ _ (call (.ref _) _ _) _ _ _); refine use_row ‹_› ‹_› ‹_› ‹_› (by show _ + 1 + 5 < recursionLimit; omega) ‹_› ?_; intro _ _ _ _ _ _ _ _ _) | with_reducible (show wpAny _ _ (eval (.ListComp ..) _) _ _ _; refine LCt.ListComp_T ‹_› rfl (by decide) rfl (by decide) rfl ?_ (fun _ => rfl)) | ((with_reducible show wpAny _ _ (subscriptTail _ _ (Value.str _ _) (Value.int _ _)) _ _ _); refine ring_at ‹_› ‹_› ‹_› ?_; intro _ _) | walk1)
    have hpos : 0 < (ts.filter (isO r)).length := List.length_pos_iff.mpr hne
    refine item_list_ints_negR (News.isList N5 (.head _)) hys (by decide) (by omega) (by decide) fun tl => ?_
    have el : (ts.filter (isO r)).getD (-1 + ((ts.filter (isO r)).length : Int)).toNat 0 = lastO r ts := by
      unfold lastO; congr 1; omega
    rw [el]
    have ec := count41 r
    repeat' (first | ((with_reducible show wpAny _ _ (call (.ref _) _ _) _ _ _); refine use_row ‹_› ‹_› ‹_› ‹_› (by show _ + 1 + 5 < recursionLimit; omega) ‹_› ?_; intro _ _ _ _ _ _ _ _ _) | with_reducible (show wpAny _ _ (eval (.ListComp ..) _) _ _ _; refine LCt.ListComp_T ‹_› rfl (by decide) rfl (by decide) rfl ?_ (fun _ => rfl)) | ((with_reducible show wpAny _ _ (subscriptTail _ _ (Value.str _ _) (Value.int _ _)) _ _ _); refine ring_at ‹_› ‹_› ‹_› ?_; intro _ _) | walk1)
    rename Fr _ _ _ _ => F6
    rename News _ _ _ _ => N6
    refine .mk (wpAny_execs_cons (wpAny_For ?_ (fun _ => rfl)))
    repeat' (first | ((with_reducible show wpAny _ _ (call (.ref _) _ _) _ _ _); refine use_row ‹_› ‹_› ‹_› ‹_› (by show _ + 1 + 5 < recursionLimit; omega) ‹_› ?_; intro _ _ _ _ _ _ _ _ _) | with_reducible (show wpAny _ _ (eval (.ListComp ..) _) _ _ _; refine LCt.ListComp_T ‹_› rfl (by decide) rfl (by decide) rfl ?_ (fun _ => rfl)) | ((with_reducible show wpAny _ _ (subscriptTail _ _ (Value.str _ _) (Value.int _ _)) _ _ _); refine ring_at ‹_› ‹_› ‹_› ?_; intro _ _) | walk1)
    have N7 : News s.heap s.heap.objs.size _ [(s.heap.objs.size + 1, o1)] := fun q hq => N6 q (.tail _ hq)
    rw [ec] at F6
    have hc9 : (r.count 41 : Int) ≤ 9 := by have := List.count_le_length (a := 41) (l := r); omega
    refine forList (L := s.heap.objs.size) (· = s.gens) hh rfl rfl rfl F6 N7 (hD.at fun o e => F6.keep _ _ e) (fun e => by
        obtain ⟨o, ho, _⟩ := hD
        exact absurd (Heap.lt_size ho) (by rw [← e]; exact Nat.lt_irrefl _)) rfl
      (DInv s.heap.objs.size o1 C (lastO r ts) fun i => (List.take i ts).foldl (dueStep r ns (lastO r ts)) ((r.count 41 : Int), [])) ⟨_, _, _, rfl, rfl, rfl, rfl, rfl⟩ ?_ ?_
    · rintro I i v m₁ news₁ h4 tk4 gs4 own rfl hv ⟨tl4, tq4, td4, m1, m2, m3, m4, rfl⟩ hn4 hown F4 N4
      have hi4 : i < ts.length := by have := (List.getElem?_eq_some_iff.mp hv).1; rw [hdi.length] at this; exact this
      obtain ⟨k, hk3⟩ : ∃ k, ts[i]? = some k := ⟨_, List.getElem?_eq_getElem hi4⟩
      obtain ⟨t3, ht3⟩ := hdi.get i k hk3
      rw [ht3] at hv
      cases hv
      obtain ⟨hk0, hk1⟩ := hds k (List.mem_of_getElem? hk3)
      have hsu : (List.take (i + 1) ts).foldl (dueStep r ns (lastO r ts)) ((r.count 41 : Int), []) = dueStep r ns (lastO r ts) ((List.take i ts).foldl (dueStep r ns (lastO r ts)) ((r.count 41 : Int), [])) k := by
        rw [List.take_add_one, hk3]; simp [List.foldl_append]
      obtain ⟨⟨lt, du⟩, hq⟩ : ∃ q, q = (List.take i ts).foldl (dueStep r ns (lastO r ts)) ((r.count 41 : Int), []) := ⟨_, rfl⟩
      dsimp only at m1 m2
      rw [← hq] at m1 m2 hsu
      have F5 := fr_known (k := Str.ofString "due") (fr_known (k := Str.ofString "later") (fr_known (k := Str.ofString "last") (fr_known (k := Str.ofString "cells") F4 m4) m3) m1) m2
      clear F4
      dsimp only [List.cons_append, List.nil_append] at F5 N4
      obtain ⟨hb1, hb2, hb3⟩ := due_bounds r ns (lastO r ts) (List.take i ts) ((r.count 41 : Int), []) hc9
      rw [← hq] at hb1 hb2 hb3
      have hli : (List.take i ts).length ≤ 9 := by rw [List.length_take]; omega
      have hlt : -20 ≤ lt ∧ lt ≤ 9 := by dsimp only at hb1 hb2; omega
      obtain ⟨hlt1, hlt2⟩ := hlt
      have hdu : (mkS du).length ≤ 1000 := by
        show du.toArray.size ≤ 1000
        rw [List.size_toArray]; simp only [List.length_nil] at hb3; omega
      have hta : (mkS (tailL (ns.getD k.toNat 0))).length ≤ 2 := by show (List.toArray _).size ≤ 2; rw [List.size_toArray]; exact tail_len _
      have hen : (mkS (endL (k == lastO r ts) (ns.getD k.toNat 0))).length ≤ 5 := by show (List.toArray _).size ≤ 5; rw [List.size_toArray]; exact end_len _ _
      have hse : (mkS (sentL (k == lastO r ts) (ns.getD k.toNat 0))).length ≤ 8 := by show (List.toArray _).size ≤ 8; rw [List.size_toArray]; exact sent_len _ _
      repeat' (first | ((with_reducible show wpAny _ _ (call (.ref _) _ _) _ _ _); refine use_row ‹_› ‹_› ‹_› ‹_› (by show _ + 1 + 5 < recursionLimit; omega) ‹_› ?_; intro _ _ _ _ _ _ _ _ _) | with_reducible (show wpAny _ _ (eval (.ListComp ..) _) _ _ _; refine LCt.ListComp_T ‹_› rfl (by decide) rfl (by decide) rfl ?_ (fun _ => rfl)) | ((with_reducible show wpAny _ _ (subscriptTail _ _ (Value.str _ _) (Value.int _ _)) _ _ _); refine ring_at ‹_› ‹_› ‹_› ?_; intro _ _) | walk1)
      · rename Fr _ _ _ _ => F'
        rename News _ _ _ _ => N'
        rename Heap.IsTuple _ _ _ => hT
        refine assign3 hh F' N' hT rfl rfl rfl rfl fun h6 tk6 F6 N6 => ?_
        clear F' N' hT
        repeat' (first | ((with_reducible show wpAny _ _ (call (.ref _) _ _) _ _ _); refine use_row ‹_› ‹_› ‹_› ‹_› (by show _ + 1 + 5 < recursionLimit; omega) ‹_› ?_; intro _ _ _ _ _ _ _ _ _) | with_reducible (show wpAny _ _ (eval (.ListComp ..) _) _ _ _; refine LCt.ListComp_T ‹_› rfl (by decide) rfl (by decide) rfl ?_ (fun _ => rfl)) | ((with_reducible show wpAny _ _ (subscriptTail _ _ (Value.str _ _) (Value.int _ _)) _ _ _); refine ring_at ‹_› ‹_› ‹_› ?_; intro _ _) | walk1)
        all_goals
          rename Fr _ _ _ _ => F'
          rename News _ _ _ _ => N'
          rename ((mkS _ == _) = _) => hc
          have hc' : isO r k = true := by unfold isO; rw [is40] at hc; simpa using hc
          rw [dueStep, hc', if_pos rfl] at hsu
          refine afterW (news₂ := [(_, _)]) F' N' rfl (fun q hq e => hn4 q hq (List.mem_singleton.mp e)) (dinv_of hsu rfl rfl rfl rfl rfl ?_)
          dsimp only
          rw [mul_dot, mk_app, mk_app, mk_app]
          first
            | rw [if_pos (by assumption)]
            | rw [if_neg (by assumption)]
      · rename Fr _ _ _ _ => F'
        rename News _ _ _ _ => N'
        rename ((mkS _ == _) = _) => hc
        have hc' : isO r k = false := by
          cases q : isO r k with
          | false => rfl
          | true => unfold isO at q; rw [is40.mpr (by simpa using q)] at hc; cases hc
        rw [dueStep, hc'] at hsu
        exact afterW (news₂ := [(_, _)]) F' N' rfl (fun q hq e => hn4 q hq (List.mem_singleton.mp e)) (dinv_of hsu rfl rfl rfl rfl rfl)
    · rintro h4 tk4 gs4 m₁ news₁ rfl F4 N4 ⟨tl4, tq4, td4, m1, m2, m3, m4, rfl⟩
      dsimp only at m2
      rw [hdi.length, List.take_of_length_le (Nat.le_refl _)] at m2
      have F5 := fr_known (k := Str.ofString "due") F4 m2
      clear F4
      dsimp only
      repeat' (first | ((with_reducible show wpAny _ _ (call (.ref _) _ _) _ _ _); refine use_row ‹_› ‹_› ‹_› ‹_› (by show _ + 1 + 5 < recursionLimit; omega) ‹_› ?_; intro _ _ _ _ _ _ _ _ _) | with_reducible (show wpAny _ _ (eval (.ListComp ..) _) _ _ _; refine LCt.ListComp_T ‹_› rfl (by decide) rfl (by decide) rfl ?_ (fun _ => rfl)) | ((with_reducible show wpAny _ _ (subscriptTail _ _ (Value.str _ _) (Value.int _ _)) _ _ _); refine ring_at ‹_› ‹_› ‹_› ?_; intro _ _) | walk1)
      exact ⟨_, _, _, rfl, rfl, F5.keep, _, rfl⟩
theorem all (v : V) : P v := byEps (v0 := v0) (by unfold v0; rfl) main v
end kdue_spec
theorem due_spec {w : World} {A : Around} {s : Shared} {p : Program} {loose : List Str} {mean : ExcName → Option Value} {mg : Str → Option Value} {mb : Str → Option Value} {d C : Addr} {vd vs : List Value} {ts ns : List Int} {r : List Nat} {tr : Tok} (hD : s.heap.IsList d vd.toArray) (hdi : IntsAre vd ts) (hC : s.heap.IsList C vs.toArray) (hi : IntsAre vs ns) (h11 : ns.length = 11) (hr : r.length ≤ 9) (hds : ∀ k ∈ ts, 0 ≤ k ∧ k < r.length) (hdl : ts.length ≤ 9) (hne : (ts.filter (isO r)) ≠ []) (X : (hd.heap_39 w.params).In s.heap) (T : Top p loose mean mg mb s.heap) (hroom : A.depth + 9 < recursionLimit) (hh : A.handled = none) :
    codeAny (model PySem.Challenge.rw_rs0108_01.row.prog w) A (.call (.ref 147) ⟨[.ref d, .str (mkS r) tr, .ref C], []⟩) (Ret s fun v _ => ∃ t', v = .str (mkS (dueL r ns ts)) t') s := kdue_spec.all (w, A, s, p, loose, mean, mg, mb, d, C, vd, vs, ts, ns, r, tr) hD hdi hC hi h11 hr hds hdl hne X T hroom hh
end
end Mine
end
-- part Mail
section
open PySem PySem.W PySem.Calls PyProof.Rows
namespace Mine
noncomputable def sendL (l : List Nat) : List Nat := quoteL true (fixL l)
noncomputable def mailStep (r : List Nat) (ns : List Int) (last : Int) (q : List Nat) (k : Int) : List Nat :=
  if isO r k then q ++ [46] ++ tailL (ns.getD k.toNat 0) ++ endL (k == last) (ns.getD k.toNat 0) else sendL q
noncomputable def mailL (r : List Nat) (ns ts : List Int) : List Nat := ts.foldl (mailStep r ns (lastO r ts)) []
noncomputable def MInv (L : Addr) (o1 : Obj) (C : Addr) (last : Int) (f : Nat → List Nat) (i : Nat) (m : Str → Option Value) (news : List (Addr × Obj)) : Prop :=
  ∃ t2 t3, m (Str.ofString "mail") = some (.str (mkS (f i)) t2) ∧ m (Str.ofString "last") = some (.int last t3) ∧ m (Str.ofString "cells") = some (.ref C) ∧ news = [(L + 1, o1)]
theorem minv_of {L : Addr} {o1 : Obj} {C : Addr} {last : Int} {f : Nat → List Nat} {i : Nat} {m : Str → Option Value} {news : List (Addr × Obj)} {d : List Nat} {t2 t3 : Tok} {S : Str} (e : f i = d)
    (h2 : m (Str.ofString "mail") = some (.str S t2)) (h3 : m (Str.ofString "last") = some (.int last t3)) (h4 : m (Str.ofString "cells") = some (.ref C)) (h5 : news = [(L + 1, o1)]) (hS : S = mkS d := by rfl) : MInv L o1 C last f i m news :=
  ⟨t2, t3, by rw [e, ← hS]; exact h2, h3, h4, h5⟩
theorem fixL_mem : ∀ {l : List Nat} {c : Nat}, c ∈ fixL l → c ∈ l ∨ c = 13 ∨ c = 10
  | [], c, h => by simp [fixL] at h
  | [a], c, h => by
    rw [fixL] at h
    split at h <;> simp at h <;> simp <;> omega
  | a :: b :: r, c, h => by
    rw [fixL] at h
    have ih1 : c ∈ fixL r → c ∈ r ∨ c = 13 ∨ c = 10 := fixL_mem
    have ih2 : c ∈ fixL (b :: r) → c ∈ b :: r ∨ c = 13 ∨ c = 10 := fixL_mem
    simp only [List.mem_cons] at ih2 ⊢
    split at h
    · split at h
      · simp only [List.mem_cons] at h
        rcases h with h | h | h
        · exact .inr (.inl h)
        · exact .inr (.inr h)
        · rcases ih1 h with q | q
          · exact .inl (.inr (.inr q))
          · exact .inr q
      · simp only [List.mem_cons] at h
        rcases h with h | h | h
        · exact .inr (.inl h)
        · exact .inr (.inr h)
        · rcases ih2 h with q | q
          · exact .inl (.inr q)
          · exact .inr q
    · split at h
      · simp only [List.mem_cons] at h
        rcases h with h | h | h
        · exact .inr (.inl h)
        · exact .inr (.inr h)
        · rcases ih2 h with q | q
          · exact .inl (.inr q)
          · exact .inr q
      · simp only [List.mem_cons] at h
        rcases h with h | h
        · exact .inl (.inl h)
        · rcases ih2 h with q | q
          · exact .inl (.inr q)
          · exact .inr q
theorem quoteL_mem : ∀ {b : Bool} {l : List Nat} {c : Nat}, c ∈ quoteL b l → c ∈ l ∨ c = 46
  | _, [], c, h => by simp [quoteL] at h
  | b, a :: r, c, h => by
    rw [quoteL] at h
    have ih : c ∈ quoteL (a == 10) r → c ∈ r ∨ c = 46 := quoteL_mem
    rcases List.mem_append.mp h with h | h
    · split at h <;> simp at h <;> simp <;> omega
    · rcases ih h with q | q
      · exact .inl (List.mem_cons_of_mem _ q)
      · exact .inr q
theorem sendL_lt {l : List Nat} (h : ∀ c ∈ l, c < 128) : ∀ c ∈ sendL l, c < 128 := fun c hc => by
  rcases quoteL_mem hc with q | q
  · rcases fixL_mem q with q | q
    · exact h c q
    · omega
  · omega
theorem sendL_len (l : List Nat) : (sendL l).length ≤ 4 * l.length := by
  have h1 := quoteL_length true (fixL l)
  have h2 := fixL_length l
  unfold sendL; omega
theorem mail_bounds (r : List Nat) (ns : List Int) (last : Int) : ∀ (l : List Int) (q : List Nat) (n : Nat), q.length ≤ n → (∀ c ∈ q, c < 128) →
    (l.foldl (mailStep r ns last) q).length ≤ (n + 8 * l.length) * 4 ^ (l.filter fun k => !isO r k).length ∧ ∀ c ∈ l.foldl (mailStep r ns last) q, c < 128
  | [], q, n, h1, h2 => by simpa using ⟨h1, h2⟩
  | k :: l, q, n, h1, h2 => by
    rw [List.foldl_cons]
    cases hk : isO r k with
    | true =>
      have e : mailStep r ns last q k = q ++ [46] ++ tailL (ns.getD k.toNat 0) ++ endL (k == last) (ns.getD k.toNat 0) := by unfold mailStep; rw [hk]; rfl
      have t1 := tail_len (ns.getD k.toNat 0)
      have t2 := end_len (k == last) (ns.getD k.toNat 0)
      obtain ⟨a, b⟩ := mail_bounds r ns last l (mailStep r ns last q k) (n + 8) (by rw [e]; simp only [List.length_append, List.length_singleton]; omega) (fun c hc => by
        rw [e] at hc
        simp only [List.mem_append, List.mem_singleton] at hc
        rcases hc with ((hc | hc) | hc) | hc
        · exact h2 c hc
        · omega
        · unfold tailL at hc; (repeat' split at hc) <;> simp at hc <;> omega
        · unfold endL at hc; (repeat' split at hc) <;> simp at hc <;> omega)
      refine ⟨?_, b⟩
      rw [List.filter_cons_of_neg (by simp [hk])]
      have e2 : n + 8 * (k :: l).length = n + 8 + 8 * l.length := by simp only [List.length_cons]; omega
      rw [e2]; exact a
    | false =>
      have e : mailStep r ns last q k = sendL q := by unfold mailStep; rw [hk]; rfl
      have t1 := sendL_len q
      obtain ⟨a, b⟩ := mail_bounds r ns last l (mailStep r ns last q k) (4 * n) (by rw [e]; omega) (by rw [e]; exact sendL_lt h2)
      refine ⟨Nat.le_trans a ?_, b⟩
      rw [List.filter_cons_of_pos (by simp [hk]), List.length_cons, List.length_cons, Nat.pow_succ, Nat.mul_comm _ 4, ← Nat.mul_assoc]
      exact Nat.mul_le_mul_right _ (by omega)
theorem back_ascii {l : List Nat} (h : ∀ c ∈ l, c < 128) : (⟨((l.map (·.toUInt8)).toArray).map (·.toNat)⟩ : Str) = mkS l := by
  congr 1
  simp only [List.map_toArray, List.map_map]
  congr 1
  conv => rhs; rw [← List.map_id l]
  refine List.map_congr_left fun c hc => ?_
  have := h c hc
  simp [Nat.toUInt8, Function.comp]
  omega
section
variable {w : World} {A : Around} {s : Shared} {p : Program} {loose : List Str} {mean : ExcName → Option Value} {mg mb : Str → Option Value}

theorem use_quote {l : List Nat} {t : Tok} {h₀ : Heap} {L : Addr} {m : Str → Option Value} {news : List (Addr × Obj)} {E : Value → Shared → Prop} {Q : Value → Shared → Prop} (X : (hd.heap_39 w.params).In h₀) (T : Top p loose mean mg mb h₀) (F : Fr h₀ L s.heap m) (N : News h₀ L s.heap news) (hroom : A.depth < recursionLimit) (hl : (mkS l).cps.size ≤ 100000)
    (h : ∀ h' tk t', Fr h₀ L h' m → News h₀ L h' news → Q (.str (mkS (sendL l)) t') { s with heap := h', toks := tk }) :
    wpAny (model PySem.Challenge.rw_rs0108_01.row.prog w) A (call (.ref 109) [.str (mkS l) t]) Q E s := by
  refine use_fr F N (quote_spec (X.keeps F.keep) (T.keeps F.keep) hroom hl) ?_
  rintro v h' tk F' N' ⟨t', rfl⟩
  exact h h' tk t' F' N'
theorem use_fix {l : List Nat} {t : Tok} {h₀ : Heap} {L : Addr} {m : Str → Option Value} {news : List (Addr × Obj)} {E : Value → Shared → Prop} {Q : Value → Shared → Prop} (X : (hd.heap_39 w.params).In h₀) (T : Top p loose mean mg mb h₀) (F : Fr h₀ L s.heap m) (N : News h₀ L s.heap news) (hroom : A.depth < recursionLimit) (hl : (mkS l).cps.size ≤ 100000)
    (h : ∀ h' tk t', Fr h₀ L h' m → News h₀ L h' news → Q (.str (mkS (fixL l)) t') { s with heap := h', toks := tk }) :
    wpAny (model PySem.Challenge.rw_rs0108_01.row.prog w) A (call (.ref 123) [.str (mkS l) t]) Q E s := by
  refine use_fr F N (fix_spec (X.keeps F.keep) (T.keeps F.keep) hroom hl) ?_
  rintro v h' tk F' N' ⟨t', rfl⟩
  exact h h' tk t' F' N'
theorem use_periods {l : List Nat} {t : Tok} {h₀ : Heap} {L : Addr} {m : Str → Option Value} {news : List (Addr × Obj)} {E : Value → Shared → Prop} {Q : Value → Shared → Prop} (X : (hd.heap_39 w.params).In h₀) (T : Top p loose mean mg mb h₀) (F : Fr h₀ L s.heap m) (N : News h₀ L s.heap news) (hroom : A.depth < recursionLimit) (hl : l.length ≤ 300000) (h128 : ∀ c ∈ l, c < 128)
    (h : ∀ h' tk t', Fr h₀ L h' m → News h₀ L h' news → Q (.bytes ((quoteL true l).map (·.toUInt8)).toArray t') { s with heap := h', toks := tk }) :
    wpAny (model PySem.Challenge.rw_rs0108_01.row.prog w) A (call (.ref 116) [.bytes ((mkS l).cps.map (·.toUInt8)) t]) Q E s := by
  refine use_fr F N (periods_spec (X.keeps F.keep) (T.keeps F.keep) hroom (by simpa [mkS] using hl)) ?_
  rintro v h' tk F' N' ⟨t', rfl⟩
  have e : (((mkS l).cps.map (·.toUInt8)).toList.map (·.toNat)) = l := by
    simp only [Array.toList_map, List.map_map]
    conv => rhs; rw [← List.map_id l]
    refine List.map_congr_left fun c hc => ?_
    have := h128 c hc
    simp [Nat.toUInt8, Function.comp]
    omega
  rw [e]
  exact h h' tk t' F' N'
theorem meth_encode {M : Model} {E : Value → Shared → Prop} {x : Str} {t : Tok} {pl : Sem Bool} {Q : Value × List Value → Shared → Prop} (h : Q (.builtin "str.encode", [.str x t]) s) : wpAny M A (getMethod (.str x t) (Str.ofString "encode") pl) Q E s :=
  getMethod_builtin (T := "str") (typeIs_str _ _ _) F.plainAttrs_str F.slot_str_encode F.type_str_encode (fun _ e => nomatch e) h
end
section
namespace kmail_spec
noncomputable abbrev V := (World) × (Around) × (Shared) × (Program) × (List Str) × (ExcName → Option Value) × (Str → Option Value) × (Str → Option Value) × (Addr) × (Addr) × (List Value) × (List Value) × (List Int) × (List Int) × (List Nat) × (Tok)
noncomputable def P (v : V) : Prop :=
  (fun (w : World) (A : Around) (s : Shared) (p : Program) (loose : List Str) (mean : ExcName → Option Value) (mg : Str → Option Value) (mb : Str → Option Value) (d : Addr) (C : Addr) (vd : List Value) (vs : List Value) (ts : List Int) (ns : List Int) (r : List Nat) (tr : Tok) =>
  ∀ (hD : s.heap.IsList d vd.toArray) (hdi : IntsAre vd ts) (hC : s.heap.IsList C vs.toArray) (hi : IntsAre vs ns) (h11 : ns.length = 11) (hr : r.length ≤ 9) (hds : ∀ k ∈ ts, 0 ≤ k ∧ k < r.length) (hdl : ts.length ≤ 9) (hne : (ts.filter (isO r)) ≠ []) (h4 : (ts.filter fun k => !isO r k).length ≤ 4) (X : (hd.heap_39 w.params).In s.heap) (T : Top p loose mean mg mb s.heap) (hroom : A.depth + 9 < recursionLimit) (hh : A.handled = none), codeAny (model PySem.Challenge.rw_rs0108_01.row.prog w) A (.call (.ref 142) ⟨[.ref d, .str (mkS r) tr, .ref C], []⟩) (Ret s fun v _ => ∃ t', v = .str (mkS (mailL r ns ts)) t') s)
    v.1 v.2.1 v.2.2.1 v.2.2.2.1 v.2.2.2.2.1 v.2.2.2.2.2.1 v.2.2.2.2.2.2.1 v.2.2.2.2.2.2.2.1 v.2.2.2.2.2.2.2.2.1 v.2.2.2.2.2.2.2.2.2.1 v.2.2.2.2.2.2.2.2.2.2.1 v.2.2.2.2.2.2.2.2.2.2.2.1 v.2.2.2.2.2.2.2.2.2.2.2.2.1 v.2.2.2.2.2.2.2.2.2.2.2.2.2.1 v.2.2.2.2.2.2.2.2.2.2.2.2.2.2.1 v.2.2.2.2.2.2.2.2.2.2.2.2.2.2.2
@[irreducible] noncomputable def v0 : V := @Classical.epsilon V ⟨(aW, callerA, {}, PySem.Challenge.rw_rs0108_01.row.prog, [], fun _ => none, fun _ => none, fun _ => none, 0, 0, [], [], [], [], [], 0)⟩ fun v => ¬ P v
noncomputable def w : World := v0.1
noncomputable def A : Around := v0.2.1
noncomputable def s : Shared := v0.2.2.1
noncomputable def p : Program := v0.2.2.2.1
noncomputable def loose : List Str := v0.2.2.2.2.1
noncomputable def mean : ExcName → Option Value := v0.2.2.2.2.2.1
noncomputable def mg : Str → Option Value := v0.2.2.2.2.2.2.1
noncomputable def mb : Str → Option Value := v0.2.2.2.2.2.2.2.1
noncomputable def d : Addr := v0.2.2.2.2.2.2.2.2.1
noncomputable def C : Addr := v0.2.2.2.2.2.2.2.2.2.1
noncomputable def vd : List Value := v0.2.2.2.2.2.2.2.2.2.2.1
noncomputable def vs : List Value := v0.2.2.2.2.2.2.2.2.2.2.2.1
noncomputable def ts : List Int := v0.2.2.2.2.2.2.2.2.2.2.2.2.1
noncomputable def ns : List Int := v0.2.2.2.2.2.2.2.2.2.2.2.2.2.1
noncomputable def r : List Nat := v0.2.2.2.2.2.2.2.2.2.2.2.2.2.2.1
noncomputable def tr : Tok := v0.2.2.2.2.2.2.2.2.2.2.2.2.2.2.2
set_option maxHeartbeats 8000000 in
theorem main (hD : s.heap.IsList d vd.toArray) (hdi : IntsAre vd ts) (hC : s.heap.IsList C vs.toArray) (hi : IntsAre vs ns) (h11 : ns.length = 11) (hr : r.length ≤ 9) (hds : ∀ k ∈ ts, 0 ≤ k ∧ k < r.length) (hdl : ts.length ≤ 9) (hne : (ts.filter (isO r)) ≠ []) (h4 : (ts.filter fun k => !isO r k).length ≤ 4) (X : (hd.heap_39 w.params).In s.heap) (T : Top p loose mean mg mb s.heap) (hroom : A.depth + 9 < recursionLimit) (hh : A.handled = none) :
    codeAny (model PySem.Challenge.rw_rs0108_01.row.prog w) A (.call (.ref 142) ⟨[.ref d, .str (mkS r) tr, .ref C], []⟩) (Ret s fun v _ => ∃ t', v = .str (mkS (mailL r ns ts)) t') s := by
  w_top off
  revert X
  k_fill
  intro X
  refine enterC (g := s.heap) (binds := [(Str.ofString "turn", .ref d), (Str.ofString "ring", .str (mkS r) tr), (Str.ofString "cells", .ref C)]) (fun _ _ e => e) (Nat.le_refl _) X T (by k_is) (by k_is) (by omega) rfl rfl (by decide +kernel) ?_ rfl rfl rfl
  intro h₁ tk cells F hk N Y
  k_cells Y
  rename_i o1 d1
  replace d1 : o1.data = .cell (some (.str (mkS r) tr)) := d1
  replace F : Fr s.heap s.heap.objs.size h₁ (fun y => if y = Str.ofString "cells" then some (.ref C) else if y = Str.ofString "turn" then some (.ref d) else none) := F
  refine wp_cut 2 _ ?_
  dsimp only [List.take, List.drop]
  repeat' (first | ((with_reducible show wpAny _ _ (call (.ref _) _ _) _ _ _); refine use_quote ‹_› ‹_› ‹_› ‹_› (by show _ + 1 < recursionLimit; omega) ‹_› ?_; intro _ _ _ _ _) | with_reducible (show wpAny _ _ (call (.builtin "bytes.decode") _ _) _ _ _; refine decode_ascii ‹_› ‹_› ?_; intro _ _) | with_reducible (show wpAny _ _ (call (.builtin "str.encode") _ _) _ _ _; refine encode_ascii ‹_› ‹_› ?_; intro _ _) | with_reducible (refine meth_encode ?_) | ((with_reducible show wpAny _ _ (call (.ref _) _ _) _ _ _); refine use_periods ‹_› ‹_› ‹_› ‹_› (by show _ + 1 < recursionLimit; omega) ‹_› ‹_› ?_; intro _ _ _ _ _) | ((with_reducible show wpAny _ _ (call (.ref _) _ _) _ _ _); refine use_fix ‹_› ‹_› ‹_› ‹_› (by show _ + 1 < recursionLimit; omega) ‹_› ?_; intro _ _ _ _ _) | ((with_reducible show wpAny _ _ (call (.ref _) _ _) _ _ _); refine use_row ‹_› ‹_› ‹_› ‹_› (by show _ + 1 + 5 < recursionLimit; omega) ‹_› ?_; intro _ _ _ _ _ _ _ _ _) | with_reducible (show wpAny _ _ (eval (.ListComp ..) _) _ _ _; refine LCt.ListComp_T ‹_› rfl (by decide) rfl (by decide) rfl ?_ (fun _ => rfl)) | ((with_reducible show wpAny _ _ (subscriptTail _ _ (Value.str _ _) (Value.int _ _)) _ _ _); refine ring_at ‹_› ‹_› ‹_› ?_; intro _ _) | walk1)
  rename Fr _ _ _ _ => F2
  rename News _ _ _ _ => N2
  have hvd : vd.toArray.size = ts.length := by simp [hdi.length]
  refine LCt.CompSrcT.base hh F2 N2 hD (by have : (20 : Nat) ≤ sizeLine := by decide
                                           omega) fun g => ?_
  rw [hvd]
  refine comp_invT ts.length (fun i ys news => news = [(_, _)] ∧ IntsAre ys ((ts.take i).filter (isO r))) ?_ ?_ _ 0 [] _ (by simp) ⟨rfl, .nil⟩
  · rintro i v I oI Cc oC D m₂ h3 tk3 ys news3 hi3 hv hC3 hm F3 N3 off ne ⟨rfl, hys⟩
    obtain ⟨k, hk3⟩ : ∃ k, ts[i]? = some k := ⟨_, List.getElem?_eq_getElem hi3⟩
    obtain ⟨t3, ht3⟩ := hdi.get i k hk3
    rw [List.getElem?_toArray, ht3] at hv
    cases hv
    obtain ⟨hk0, hk1⟩ := hds k (List.mem_of_getElem? hk3)
    have hpk := take_succ_filter (isO r) _ _ _ hk3
    repeat' (first | ((with_reducible show wpAny _ _ (call (.ref _) _ _) _ _ _); refine use_quote ‹_› ‹_› ‹_› ‹_› (by show _ + 1 < recursionLimit; omega) ‹_› ?_; intro _ _ _ _ _) | with_reducible (show wpAny _ _ (call (.builtin "bytes.decode") _ _) _ _ _; refine decode_ascii ‹_› ‹_› ?_; intro _ _) | with_reducible (show wpAny _ _ (call (.builtin "str.encode") _ _) _ _ _; refine encode_ascii ‹_› ‹_› ?_; intro _ _) | with_reducible (refine meth_encode ?_) | ((with_reducible show wpAny _ _ (call (.ref _) _ _) _ _ _); refine use_periods ‹_› ‹_› ‹_› ‹_› (by show _ + 1 < recursionLimit; omega) ‹_› ‹_› ?_; intro _ _ _ _ _) | ((with_reducible show wpAny _ _ (call (.ref _) _ _) _ _ _); refine use_fix ‹_› ‹_› ‹_› ‹_› (by show _ + 1 < recursionLimit; omega) ‹_› ?_; intro _ _ _ _ _) | ((with_reducible show wpAny _ _ (call (.ref _) _ _) _ _ _); refine use_row ‹_› ‹_› ‹_› ‹_› (by show _ + 1 + 5 < recursionLimit; omega) ‹_› ?_; intro _ _ _ _ _ _ _ _ _) | with_reducible (show wpAny _ _ (eval (.ListComp ..) _) _ _ _; refine LCt.ListComp_T ‹_› rfl (by decide) rfl (by decide) rfl ?_ (fun _ => rfl)) | ((with_reducible show wpAny _ _ (subscriptTail _ _ (Value.str _ _) (Value.int _ _)) _ _ _); refine ring_at ‹_› ‹_› ‹_› ?_; intro _ _) | walk1)
    · rename ((mkS _ == _) = _) => hc
      have hc' : isO r k = true := by unfold isO; rw [is40] at hc; simpa using hc
      exact end_same (more := []) F3 N3 off (.inl hD) ⟨rfl, by rw [hpk, hc']; exact hys.append (.cons _ _ .nil)⟩
    · rename ((mkS _ == _) = _) => hc
      have hc' : isO r k = false := by
        cases q : isO r k with
        | false => rfl
        | true => unfold isO at q; rw [is40.mpr (by simpa using q)] at hc; cases hc
      exact end_same (more := []) F3 N3 off (.inl hD) ⟨rfl, by rw [hpk, hc']; simpa using hys⟩
  · rintro ys news3 ⟨rfl, hys⟩ D2 h5 tk5 F5 N5 off5
    rw [List.take_of_length_le (Nat.le_refl _)] at hys
    dsimp only
    repeat' (first | ((with_reducible show wpAny _ _ (call (.ref _) _ _) _ _ _); refine use_quote ‹_› ‹_› ‹_› ‹_› (by show _ + 1 < recursionLimit; omega) ‹_› ?_; intro _ _ _ _ _) | with_reducible (show wpAny _ _ (call (.builtin "bytes.decode") _ _) _ _ _; refine decode_ascii ‹_› ‹_› ?_; intro _ _) | with_reducible (show wpAny _ _ (call (.builtin "str.encode") _ _) _ _ _; refine encode_ascii ‹_› ‹_› ?_; intro _ _) | with_reducible (refine meth_encode ?_) | ((with_reducible show wpAny _ _ (call (.ref _) _ _) _ _ _); refine use_periods ‹_› ‹_› ‹_› ‹_› (by show _ + 1 < recursionLimit; omega) ‹_› ‹_› ?_; intro _ _ _ _ _) | ((with_reducible show wpAny _ _ (call (.ref _) _ _) _ _ _); refine use_fix ‹_› ‹_› ‹_› ‹_› (by show _ + 1 < recursionLimit; omega) ‹_› ?_; intro _ _ _ _ _) | ((with_reducible show wpAny _ _ (call (.ref _) _ _) _ _ _); refine use_row ‹_› ‹_› ‹_› ‹_› (by show _ + 1 + 5 < recursionLimit; omega) ‹_› ?_; intro _ _ _ _ _ _ _ _ _) | with_reducible (show wpAny _ _ (eval (.ListComp ..) _) _ _ _; refine LCt.ListComp_T ‹_› rfl (by decide) rfl (by decide) rfl ?_ (fun _ => rfl)) | ((with_reducible show wpAny _ _ (subscriptTail _ _ (Value.str _ _) (Value.int _ _)) _ _ _); refine ring_at ‹_› ‹_› ‹_› ?_; intro _ _) | walk1)
    have hpos : 0 < (ts.filter (isO r)).length := List.length_pos_iff.mpr hne
    refine item_list_ints_negR (News.isList N5 (.head _)) hys (by decide) (by omega) (by decide) fun tl => ?_
    have el : (ts.filter (isO r)).getD (-1 + ((ts.filter (isO r)).length : Int)).toNat 0 = lastO r ts := by
      unfold lastO; congr 1; omega
    rw [el]
    repeat' (first | ((with_reducible show wpAny _ _ (call (.ref _) _ _) _ _ _); refine use_quote ‹_› ‹_› ‹_› ‹_› (by show _ + 1 < recursionLimit; omega) ‹_› ?_; intro _ _ _ _ _) | with_reducible (show wpAny _ _ (call (.builtin "bytes.decode") _ _) _ _ _; refine decode_ascii ‹_› ‹_› ?_; intro _ _) | with_reducible (show wpAny _ _ (call (.builtin "str.encode") _ _) _ _ _; refine encode_ascii ‹_› ‹_› ?_; intro _ _) | with_reducible (refine meth_encode ?_) | ((with_reducible show wpAny _ _ (call (.ref _) _ _) _ _ _); refine use_periods ‹_› ‹_› ‹_› ‹_› (by show _ + 1 < recursionLimit; omega) ‹_› ‹_› ?_; intro _ _ _ _ _) | ((with_reducible show wpAny _ _ (call (.ref _) _ _) _ _ _); refine use_fix ‹_› ‹_› ‹_› ‹_› (by show _ + 1 < recursionLimit; omega) ‹_› ?_; intro _ _ _ _ _) | ((with_reducible show wpAny _ _ (call (.ref _) _ _) _ _ _); refine use_row ‹_› ‹_› ‹_› ‹_› (by show _ + 1 + 5 < recursionLimit; omega) ‹_› ?_; intro _ _ _ _ _ _ _ _ _) | with_reducible (show wpAny _ _ (eval (.ListComp ..) _) _ _ _; refine LCt.ListComp_T ‹_› rfl (by decide) rfl (by decide) rfl ?_ (fun _ => rfl)) | ((with_reducible show wpAny _ _ (subscriptTail _ _ (Value.str _ _) (Value.int _ _)) _ _ _); refine ring_at ‹_› ‹_› ‹_› ?_; intro _ _) | walk1)
    rename Fr _ _ _ _ => F6
    rename News _ _ _ _ => N6
    refine .mk (wpAny_execs_cons (wpAny_For ?_ (fun _ => rfl)))
    repeat' (first | ((with_reducible show wpAny _ _ (call (.ref _) _ _) _ _ _); refine use_quote ‹_› ‹_› ‹_› ‹_› (by show _ + 1 < recursionLimit; omega) ‹_› ?_; intro _ _ _ _ _) | with_reducible (show wpAny _ _ (call (.builtin "bytes.decode") _ _) _ _ _; refine decode_ascii ‹_› ‹_› ?_; intro _ _) | with_reducible (show wpAny _ _ (call (.builtin "str.encode") _ _) _ _ _; refine encode_ascii ‹_› ‹_› ?_; intro _ _) | with_reducible (refine meth_encode ?_) | ((with_reducible show wpAny _ _ (call (.ref _) _ _) _ _ _); refine use_periods ‹_› ‹_› ‹_› ‹_› (by show _ + 1 < recursionLimit; omega) ‹_› ‹_› ?_; intro _ _ _ _ _) | ((with_reducible show wpAny _ _ (call (.ref _) _ _) _ _ _); refine use_fix ‹_› ‹_› ‹_› ‹_› (by show _ + 1 < recursionLimit; omega) ‹_› ?_; intro _ _ _ _ _) | ((with_reducible show wpAny _ _ (call (.ref _) _ _) _ _ _); refine use_row ‹_› ‹_› ‹_› ‹_› (by show _ + 1 + 5 < recursionLimit; omega) ‹_› ?_; intro _ _ _ _ _ _ _ _ _) | with_reducible (show wpAny _ _ (eval (.ListComp ..) _) _ _ _; refine LCt.ListComp_T ‹_› rfl (by decide) rfl (by decide) rfl ?_ (fun _ => rfl)) | ((with_reducible show wpAny _ _ (subscriptTail _ _ (Value.str _ _) (Value.int _ _)) _ _ _); refine ring_at ‹_› ‹_› ‹_› ?_; intro _ _) | walk1)
    have N7 : News s.heap s.heap.objs.size _ [(s.heap.objs.size + 1, o1)] := fun q hq => N6 q (.tail _ hq)
    refine forList (L := s.heap.objs.size) (· = s.gens) hh rfl rfl rfl F6 N7 (hD.at fun o e => F6.keep _ _ e) (fun e => by
        obtain ⟨o, ho, _⟩ := hD
        exact absurd (Heap.lt_size ho) (by rw [← e]; exact Nat.lt_irrefl _)) rfl
      (MInv s.heap.objs.size o1 C (lastO r ts) fun i => (List.take i ts).foldl (mailStep r ns (lastO r ts)) []) (minv_of (d := []) rfl rfl rfl rfl rfl (by decide +kernel)) ?_ ?_
    · have h4' := h4
      rintro I i v m₁ news₁ h4 tk4 gs4 own rfl hv ⟨tq4, td4, m2, m3, m4, rfl⟩ hn4 hown F4 N4
      have hi4 : i < ts.length := by have := (List.getElem?_eq_some_iff.mp hv).1; rw [hdi.length] at this; exact this
      obtain ⟨k, hk3⟩ : ∃ k, ts[i]? = some k := ⟨_, List.getElem?_eq_getElem hi4⟩
      obtain ⟨t3, ht3⟩ := hdi.get i k hk3
      rw [ht3] at hv
      cases hv
      obtain ⟨hk0, hk1⟩ := hds k (List.mem_of_getElem? hk3)
      have hsu : (List.take (i + 1) ts).foldl (mailStep r ns (lastO r ts)) [] = mailStep r ns (lastO r ts) ((List.take i ts).foldl (mailStep r ns (lastO r ts)) []) k := by
        rw [List.take_add_one, hk3]; simp [List.foldl_append]
      obtain ⟨du, hq⟩ : ∃ q, q = (List.take i ts).foldl (mailStep r ns (lastO r ts)) [] := ⟨_, rfl⟩
      dsimp only at m2
      rw [← hq] at m2 hsu
      have F5 := fr_known (k := Str.ofString "mail") (fr_known (k := Str.ofString "last") (fr_known (k := Str.ofString "cells") F4 m4) m3) m2
      clear F4
      dsimp only [List.cons_append, List.nil_append] at F5 N4
      obtain ⟨hb1, hb2⟩ := mail_bounds r ns (lastO r ts) (List.take i ts) [] 0 (Nat.le_refl _) (by simp)
      rw [← hq] at hb1 hb2
      have hli : (List.take i ts).length ≤ 9 := by rw [List.length_take]; omega
      have hfl : ((List.take i ts).filter fun k => !isO r k).length ≤ 4 := Nat.le_trans ((List.take_sublist i ts).filter _).length_le h4'
      have hdl' : du.length ≤ 18432 := by
        have hp : 4 ^ ((List.take i ts).filter fun k => !isO r k).length ≤ 4 ^ 4 := Nat.pow_le_pow_right (by decide) hfl
        have hm : (0 + 8 * (List.take i ts).length) * 4 ^ ((List.take i ts).filter fun k => !isO r k).length ≤ 72 * 4 ^ 4 := Nat.mul_le_mul (by omega) hp
        exact Nat.le_trans hb1 hm
      have hdu : (mkS du).length ≤ 25000 := by
        show du.toArray.size ≤ 25000
        rw [List.size_toArray]; omega
      have hdc : (mkS du).cps.size ≤ 100000 := by
        show du.toArray.size ≤ 100000
        rw [List.size_toArray]; omega
      have hf1 : ∀ c ∈ fixL du, c < 128 := fun c hc => by
        rcases fixL_mem hc with q | q
        · exact hb2 c q
        · omega
      have hf2 : (fixL du).length ≤ 300000 := by have := fixL_length du; omega
      have hf3 : ∀ c ∈ (mkS (fixL du)).cps.toList, c < 128 := by simpa [mkS] using hf1
      have hf4 : (mkS (fixL du)).cps.size ≤ 16777216 := by show (fixL du).toArray.size ≤ _; rw [List.size_toArray]; omega
      have hs1 := sendL_lt hb2
      have hs2 := sendL_len du
      have hf5 : ∀ c ∈ ((quoteL true (fixL du)).map (·.toUInt8)).toArray.toList, c.toNat < 128 := fun c hc => by
        simp only [List.mem_map] at hc
        obtain ⟨a, ha, rfl⟩ := hc
        have := hs1 a ha
        simp [Nat.toUInt8]; omega
      have hf6 : ((quoteL true (fixL du)).map (·.toUInt8)).toArray.size ≤ 16777216 := by
        rw [List.size_toArray, List.length_map]
        exact Nat.le_trans hs2 (by omega)
      have hta : (mkS (tailL (ns.getD k.toNat 0))).length ≤ 2 := by show (List.toArray _).size ≤ 2; rw [List.size_toArray]; exact tail_len _
      have hen : (mkS (endL (k == lastO r ts) (ns.getD k.toNat 0))).length ≤ 5 := by show (List.toArray _).size ≤ 5; rw [List.size_toArray]; exact end_len _ _
      have hse : (mkS (sentL (k == lastO r ts) (ns.getD k.toNat 0))).length ≤ 8 := by show (List.toArray _).size ≤ 8; rw [List.size_toArray]; exact sent_len _ _
      repeat' (first | ((with_reducible show wpAny _ _ (call (.ref _) _ _) _ _ _); refine use_quote ‹_› ‹_› ‹_› ‹_› (by show _ + 1 < recursionLimit; omega) ‹_› ?_; intro _ _ _ _ _) | with_reducible (show wpAny _ _ (call (.builtin "bytes.decode") _ _) _ _ _; refine decode_ascii ‹_› ‹_› ?_; intro _ _) | with_reducible (show wpAny _ _ (call (.builtin "str.encode") _ _) _ _ _; refine encode_ascii ‹_› ‹_› ?_; intro _ _) | with_reducible (refine meth_encode ?_) | ((with_reducible show wpAny _ _ (call (.ref _) _ _) _ _ _); refine use_periods ‹_› ‹_› ‹_› ‹_› (by show _ + 1 < recursionLimit; omega) ‹_› ‹_› ?_; intro _ _ _ _ _) | ((with_reducible show wpAny _ _ (call (.ref _) _ _) _ _ _); refine use_fix ‹_› ‹_› ‹_› ‹_› (by show _ + 1 < recursionLimit; omega) ‹_› ?_; intro _ _ _ _ _) | ((with_reducible show wpAny _ _ (call (.ref _) _ _) _ _ _); refine use_row ‹_› ‹_› ‹_› ‹_› (by show _ + 1 + 5 < recursionLimit; omega) ‹_› ?_; intro _ _ _ _ _ _ _ _ _) | with_reducible (show wpAny _ _ (eval (.ListComp ..) _) _ _ _; refine LCt.ListComp_T ‹_› rfl (by decide) rfl (by decide) rfl ?_ (fun _ => rfl)) | ((with_reducible show wpAny _ _ (subscriptTail _ _ (Value.str _ _) (Value.int _ _)) _ _ _); refine ring_at ‹_› ‹_› ‹_› ?_; intro _ _) | walk1)
      · rename Fr _ _ _ _ => F'
        rename News _ _ _ _ => N'
        rename Heap.IsTuple _ _ _ => hT
        refine assign3 hh F' N' hT rfl rfl rfl rfl fun h6 tk6 F6 N6 => ?_
        clear F' N' hT
        repeat' (first | ((with_reducible show wpAny _ _ (call (.ref _) _ _) _ _ _); refine use_quote ‹_› ‹_› ‹_› ‹_› (by show _ + 1 < recursionLimit; omega) ‹_› ?_; intro _ _ _ _ _) | with_reducible (show wpAny _ _ (call (.builtin "bytes.decode") _ _) _ _ _; refine decode_ascii ‹_› ‹_› ?_; intro _ _) | with_reducible (show wpAny _ _ (call (.builtin "str.encode") _ _) _ _ _; refine encode_ascii ‹_› ‹_› ?_; intro _ _) | with_reducible (refine meth_encode ?_) | ((with_reducible show wpAny _ _ (call (.ref _) _ _) _ _ _); refine use_periods ‹_› ‹_› ‹_› ‹_› (by show _ + 1 < recursionLimit; omega) ‹_› ‹_› ?_; intro _ _ _ _ _) | ((with_reducible show wpAny _ _ (call (.ref _) _ _) _ _ _); refine use_fix ‹_› ‹_› ‹_› ‹_› (by show _ + 1 < recursionLimit; omega) ‹_› ?_; intro _ _ _ _ _) | ((with_reducible show wpAny _ _ (call (.ref _) _ _) _ _ _); refine use_row ‹_› ‹_› ‹_› ‹_› (by show _ + 1 + 5 < recursionLimit; omega) ‹_› ?_; intro _ _ _ _ _ _ _ _ _) | with_reducible (show wpAny _ _ (eval (.ListComp ..) _) _ _ _; refine LCt.ListComp_T ‹_› rfl (by decide) rfl (by decide) rfl ?_ (fun _ => rfl)) | ((with_reducible show wpAny _ _ (subscriptTail _ _ (Value.str _ _) (Value.int _ _)) _ _ _); refine ring_at ‹_› ‹_› ‹_› ?_; intro _ _) | walk1)
        rename Fr _ _ _ _ => F'
        rename News _ _ _ _ => N'
        rename ((mkS _ == _) = _) => hc
        have hc' : isO r k = true := by unfold isO; rw [is40] at hc; simpa using hc
        rw [mailStep, hc', if_pos rfl] at hsu
        refine afterW (news₂ := [(_, _)]) F' N' rfl (fun q hq e => hn4 q hq (List.mem_singleton.mp e)) (minv_of hsu rfl rfl rfl rfl ?_)
        rw [show Str.ofString "." = mkS [46] by decide +kernel, mk_app, mk_app, mk_app]
      · rename Fr _ _ _ _ => F'
        rename News _ _ _ _ => N'
        rename ((mkS _ == _) = _) => hc
        have hc' : isO r k = false := by
          cases q : isO r k with
          | false => rfl
          | true => unfold isO at q; rw [is40.mpr (by simpa using q)] at hc; cases hc
        rw [mailStep, hc'] at hsu
        exact afterW (news₂ := [(_, _)]) F' N' rfl (fun q hq e => hn4 q hq (List.mem_singleton.mp e)) (minv_of hsu rfl rfl rfl rfl)
      · rename Fr _ _ _ _ => F'
        rename News _ _ _ _ => N'
        rename ((mkS _ == _) = _) => hc
        have hc' : isO r k = false := by
          cases q : isO r k with
          | false => rfl
          | true => unfold isO at q; rw [is40.mpr (by simpa using q)] at hc; cases hc
        rw [mailStep, hc'] at hsu
        refine afterW (news₂ := [(_, _)]) F' N' rfl (fun q hq e => hn4 q hq (List.mem_singleton.mp e)) (minv_of hsu rfl rfl rfl rfl ?_)
        exact back_ascii hs1
    · rintro h4 tk4 gs4 m₁ news₁ rfl F4 N4 ⟨tq4, td4, m2, m3, m4, rfl⟩
      dsimp only at m2
      rw [hdi.length, List.take_of_length_le (Nat.le_refl _)] at m2
      have F5 := fr_known (k := Str.ofString "mail") F4 m2
      clear F4
      dsimp only
      repeat' (first | ((with_reducible show wpAny _ _ (call (.ref _) _ _) _ _ _); refine use_quote ‹_› ‹_› ‹_› ‹_› (by show _ + 1 < recursionLimit; omega) ‹_› ?_; intro _ _ _ _ _) | with_reducible (show wpAny _ _ (call (.builtin "bytes.decode") _ _) _ _ _; refine decode_ascii ‹_› ‹_› ?_; intro _ _) | with_reducible (show wpAny _ _ (call (.builtin "str.encode") _ _) _ _ _; refine encode_ascii ‹_› ‹_› ?_; intro _ _) | with_reducible (refine meth_encode ?_) | ((with_reducible show wpAny _ _ (call (.ref _) _ _) _ _ _); refine use_periods ‹_› ‹_› ‹_› ‹_› (by show _ + 1 < recursionLimit; omega) ‹_› ‹_› ?_; intro _ _ _ _ _) | ((with_reducible show wpAny _ _ (call (.ref _) _ _) _ _ _); refine use_fix ‹_› ‹_› ‹_› ‹_› (by show _ + 1 < recursionLimit; omega) ‹_› ?_; intro _ _ _ _ _) | ((with_reducible show wpAny _ _ (call (.ref _) _ _) _ _ _); refine use_row ‹_› ‹_› ‹_› ‹_› (by show _ + 1 + 5 < recursionLimit; omega) ‹_› ?_; intro _ _ _ _ _ _ _ _ _) | with_reducible (show wpAny _ _ (eval (.ListComp ..) _) _ _ _; refine LCt.ListComp_T ‹_› rfl (by decide) rfl (by decide) rfl ?_ (fun _ => rfl)) | ((with_reducible show wpAny _ _ (subscriptTail _ _ (Value.str _ _) (Value.int _ _)) _ _ _); refine ring_at ‹_› ‹_› ‹_› ?_; intro _ _) | walk1)
      exact ⟨_, _, _, rfl, rfl, F5.keep, _, rfl⟩
theorem all (v : V) : P v := byEps (v0 := v0) (by unfold v0; rfl) main v
end kmail_spec
theorem mail_spec {w : World} {A : Around} {s : Shared} {p : Program} {loose : List Str} {mean : ExcName → Option Value} {mg : Str → Option Value} {mb : Str → Option Value} {d C : Addr} {vd vs : List Value} {ts ns : List Int} {r : List Nat} {tr : Tok} (hD : s.heap.IsList d vd.toArray) (hdi : IntsAre vd ts) (hC : s.heap.IsList C vs.toArray) (hi : IntsAre vs ns) (h11 : ns.length = 11) (hr : r.length ≤ 9) (hds : ∀ k ∈ ts, 0 ≤ k ∧ k < r.length) (hdl : ts.length ≤ 9) (hne : (ts.filter (isO r)) ≠ []) (h4 : (ts.filter fun k => !isO r k).length ≤ 4) (X : (hd.heap_39 w.params).In s.heap) (T : Top p loose mean mg mb s.heap) (hroom : A.depth + 9 < recursionLimit) (hh : A.handled = none) :
    codeAny (model PySem.Challenge.rw_rs0108_01.row.prog w) A (.call (.ref 142) ⟨[.ref d, .str (mkS r) tr, .ref C], []⟩) (Ret s fun v _ => ∃ t', v = .str (mkS (mailL r ns ts)) t') s := kmail_spec.all (w, A, s, p, loose, mean, mg, mb, d, C, vd, vs, ts, ns, r, tr) hD hdi hC hi h11 hr hds hdl hne h4 X T hroom hh
end
end Mine
end
-- part Dmp
section
open PySem PySem.W PySem.Calls PyProof.Rows
namespace Mine
noncomputable def RetM (q r : Int) (s : Shared) (res : Result) (s' : Shared) : Prop :=
  ∃ v h' tk, res = .ok (.ret v) ∧ s' = { s with heap := h', toks := tk } ∧ (∀ b o, b ≠ 68 → b ≠ 75 → s.heap.get? b = some o → h'.get? b = some o) ∧ Tab68 h' ∧ Tab75 h' ∧ ∃ D t1 t2 n, v = .ref D ∧ h'.get? D = some { cls := .type "tuple", data := .seq #[.int q t1, .int r t2] n } ∧ (D ≠ 68 → D ≠ 75 → s.heap.get? D = none)
theorem allLt_mem {d : Nat} {l : List (Addr × Obj)} (h : AllLt d l) : ∀ q ∈ l, q.1 < d := by
  induction l with
  | nil => intro q hq; cases hq
  | cons p r ih =>
    intro q hq
    rcases List.mem_cons.mp hq with rfl | hq
    · exact h.1
    · exact ih h.2 q hq
set_option maxHeartbeats 8000000 in
theorem forRev {prog : Program} {w : World} {A : Around} {s : Shared} {R : Result → Shared → Prop} {bd : List Stmt} {env : Env} {x : Str} {p1 : Pos} {h₀ : Heap} {L l I : Addr} {vs : List Value} {m : Str → Option Value} {news own0 : List (Addr × Obj)} {E : Value → Shared → Prop} (Gs : Array GenState → Prop)
    (F : Fr h₀ L s.heap m) (N : News h₀ L s.heap ((I, revObj l ((vs.length : Int) - 1)) :: own0)) (hs : ∀ q ∈ news, q ∈ own0) (hI : ∀ q ∈ own0, q.1 < I) (hl : s.heap.IsList l vs.toArray) (hlI : l ≠ I) (hLl : L ≠ l)
    (hh : A.handled = none) (hLe : env.locals = L) (hx : env.kindOf x = some .local) (hp : (env.scope.kind == .class || (env.scope.kind == .module && env.locals != env.globals)) = false) (hG : Gs s.gens)
    (J : Nat → (Str → Option Value) → List (Addr × Obj) → Prop) (h0 : J 0 m news)
    (step : ∀ i v m₁ news₁ h tk gs own, Gs gs → i < vs.length → vs[vs.length - 1 - i]? = some v → J i m₁ news₁ → (∀ q ∈ news₁, q.1 ≠ I) → (∀ q ∈ own, q.1 = I ∨ q.1 = l) →
      Fr h₀ L h (fun y => if y = x then some v else m₁ y) → News h₀ L h (news₁ ++ own) →
      wpAny (model prog w) A (execs bd env) (AfterW h₀ L [I] own Gs { s with heap := h, toks := tk, gens := gs } (J (i + 1)) R) (fun _ _ => False) { s with heap := h, toks := tk, gens := gs })
    (hR : ∀ h tk gs m' news', Gs gs → Fr h₀ L h m' → News h₀ L h news' → J vs.length m' news' → R (.ok .next) { s with heap := h, toks := tk, gens := gs }) :
    wpAny (model prog w) A (pyIter (.ref I)) (fun it s₂ => codeAny (model prog w) A (.forLoop (.Name x p1) it bd [] env) R s₂) E s := by
  have hIx := N _ (.head _)
  have hsz : vs.toArray.size = vs.length := by simp
  have hit : s.heap.IsRevIter I l ((vs.length : Int) - 1) := ⟨_, hIx.1, rfl, rfl⟩
  refine wpAny_pyIter_revIter hit ?_
  refine forW (St := fun i h => i ≤ vs.toArray.size ∧ h.IsRevIter I l ((vs.toArray.size : Int) - 1 - (i : Int)) ∧ h.IsList l vs.toArray) Gs (Walks.listRev hh I l hlI vs.toArray) hLe hx hp (fun q => ?_) (fun b hb => ?_) ⟨Nat.zero_le _, ?_, hl⟩ F (fun q hq => N q (.tail _ (hs q hq))) (fun q hq hb => ?_) hG J h0 ?_ ?_
  · rcases List.mem_cons.mp q with q | q
    · exact hIx.2.1 q.symm
    · exact hLl (List.mem_singleton.mp q)
  · rw [List.mem_singleton.mp hb]; exact hIx.2.2
  · rw [hsz, show (vs.length : Int) - 1 - ((0 : Nat) : Int) = (vs.length : Int) - 1 by omega]; exact hit
  · exact absurd (List.mem_singleton.mp hb) (Nat.ne_of_lt (hI q (hs q hq)))
  · intro i v m₁ news₁ h tk gs own hg hi hv hJ hn ho F' N'
    rw [hsz] at hi hv
    exact step i v m₁ news₁ h tk gs own hg hi (by simpa using hv) hJ (fun q hq e => hn q hq (by rw [e]; exact .head _)) (fun q hq => by simpa using ho q hq) F' N'
  · intro h tk gs m' news' hg F' N' _ hJ
    rw [hsz] at hJ
    exact hR h tk gs m' news' hg F' N' hJ
/-- the division, digit by digit from the top -/
structure DivSt (n a b ln i : Nat) (qs : List Nat) (r : Nat) : Prop where
  len : qs.length = i
  lt : ∀ e ∈ qs, e < 2 ^ n
  val : valD n qs.reverse = a / 2 ^ (n * (ln - i)) / b
  rem : r = a / 2 ^ (n * (ln - i)) % b
theorem DivSt.zero {n a b ln : Nat} (h : a < 2 ^ (n * ln)) : DivSt n a b ln 0 [] 0 := by
  have e : a / 2 ^ (n * (ln - 0)) = 0 := Nat.div_eq_of_lt (by simpa using h)
  exact ⟨rfl, by simp, by rw [e]; simp [valD], by rw [e]; simp⟩
theorem DivSt.next {n a b ln i r : Nat} {qs : List Nat} (x : DivSt n a b ln i qs r) (hb : 0 < b) (hi : i < ln) :
    r * 2 ^ n + a / 2 ^ (n * (ln - 1 - i)) % 2 ^ n < 2 ^ n * b ∧ DivSt n a b ln (i + 1) (qs ++ [(r * 2 ^ n + a / 2 ^ (n * (ln - 1 - i)) % 2 ^ n) / b]) ((r * 2 ^ n + a / 2 ^ (n * (ln - 1 - i)) % 2 ^ n) % b) := by
  have hp := Nat.two_pow_pos n
  obtain ⟨x1, x2, x3, x4⟩ := x
  have ek : ln - i = (ln - 1 - i) + 1 := by omega
  have ek2 : ln - (i + 1) = ln - 1 - i := by omega
  have eA : a / 2 ^ (n * (ln - i)) = a / 2 ^ (n * (ln - 1 - i)) / 2 ^ n := by
    rw [ek, Nat.mul_add, Nat.mul_one, Nat.pow_add, Nat.div_div_eq_div_mul]
  obtain ⟨B, hB⟩ : ∃ B, B = a / 2 ^ (n * (ln - 1 - i)) := ⟨_, rfl⟩
  rw [eA, ← hB] at x3 x4
  have hr : r < b := by rw [x4]; exact Nat.mod_lt _ hb
  have hd : B % 2 ^ n < 2 ^ n := Nat.mod_lt _ hp
  have h1 := Nat.div_add_mod B (2 ^ n)
  have h2 := Nat.div_add_mod (B / 2 ^ n) b
  have hlt : r * 2 ^ n + B % 2 ^ n < 2 ^ n * b := by
    have e : r * 2 ^ n + B % 2 ^ n < (r + 1) * 2 ^ n := by rw [Nat.add_mul, Nat.one_mul]; omega
    have e2 := Nat.mul_le_mul_right (2 ^ n) (Nat.succ_le_of_lt hr)
    rw [Nat.mul_comm b] at e2
    exact Nat.lt_of_lt_of_le e e2
  have eB : B = b * (B / 2 ^ n / b * 2 ^ n) + (r * 2 ^ n + B % 2 ^ n) := by
    rw [← Nat.mul_assoc]
    have e1 : B / 2 ^ n * 2 ^ n = b * (B / 2 ^ n / b) * 2 ^ n + r * 2 ^ n := by rw [← Nat.add_mul, x4, h2]
    rw [Nat.mul_comm] at h1
    omega
  rw [← hB]
  refine ⟨hlt, ?_⟩
  refine ⟨by simp [x1], ?_, ?_, ?_⟩
  · intro e he
    rcases List.mem_append.mp he with he | he
    · exact x2 e he
    · rw [List.mem_singleton.mp he]; exact (Nat.div_lt_iff_lt_mul hb).mpr hlt
  · rw [List.reverse_append, List.reverse_singleton, List.singleton_append, valD, x3, ek2, ← hB]
    conv => rhs; rw [eB, Nat.add_comm, Nat.add_mul_div_left _ _ hb]
    rw [Nat.mul_comm (2 ^ n)]
  · rw [ek2, ← hB]
    conv => rhs; rw [eB, Nat.add_comm, Nat.add_mul_mod_self_left]
/-- what the loop of _divmod_pos keeps -/
noncomputable def DJ (n a b ln : Nat) (D2 : Addr) (rest : List (Addr × Obj)) (i : Nat) (m : Str → Option Value) (news : List (Addr × Obj)) : Prop :=
  ∃ qs r vs nn t1 t2 t3, DivSt n a b ln i qs r ∧ m (Str.ofString "r") = some (.int (r : Int) t1) ∧ m (Str.ofString "n") = some (.int (n : Int) t2) ∧ m (Str.ofString "b") = some (.int (b : Int) t3) ∧ m (Str.ofString "q_digits") = some (.ref D2) ∧
    news = (D2, listOf vs.toArray nn) :: rest ∧ IntsAre vs (natsI qs)
section
variable {w : World} {A : Around} {s : Shared} {p : Program} {loose : List Str} {mean : ExcName → Option Value} {mg mb : Str → Option Value}
theorem bitN {prog : Program} {a : Nat} {t : Tok} {E : Value → Shared → Prop} {Q : Value → Shared → Prop} (h : Q (.int ((bitsN a : Nat) : Int) s.toks) { s with toks := s.toks + 1 }) :
    wpAny (model prog w) A (call (.builtin "int.bit_length") [.int (a : Int) t]) Q E s := call_int_bit_length h
end
section
namespace kdmp_spec
noncomputable abbrev V := (World) × (Around) × (Shared) × (Program) × (List Str) × (ExcName → Option Value) × (Str → Option Value) × (Str → Option Value) × (Heap) × (Nat) × (Nat) × (Tok) × (Tok)
noncomputable def P (v : V) : Prop :=
  (fun (w : World) (A : Around) (s : Shared) (p : Program) (loose : List Str) (mean : ExcName → Option Value) (mg : Str → Option Value) (mb : Str → Option Value) (g : Heap) (a : Nat) (b : Nat) (ta : Tok) (tb : Tok) =>
  ∀ (hg : ∀ b o, g.get? b = some o → s.heap.get? b = some o) (hgs : g.objs.size ≤ s.heap.objs.size) (g68 : g.get? 68 = none) (g75 : g.get? 75 = none) (hT1 : Tab68 s.heap) (hT2 : Tab75 s.heap) (hb0 : 0 < b) (hb : bitsN b ≤ 5000) (ha : a < 2 ^ 20000) (hl : (bitsN a + bitsN b - 1) / bitsN b ≤ 20) (C1 : CodeHd g 72 68) (C2 : CodeHd g 79 75) (X : (hd.heap_39 w.params).In g) (T : Top p loose mean mg mb g) (hroom : A.depth + 40 < recursionLimit) (hh : A.handled = none), codeAny (model PySem.Challenge.rw_rs0108_01.row.prog w) A (.call (.ref 87) ⟨[.int a ta, .int b tb], []⟩) (RetM ((a / b : Nat) : Int) ((a % b : Nat) : Int) s) s)
    v.1 v.2.1 v.2.2.1 v.2.2.2.1 v.2.2.2.2.1 v.2.2.2.2.2.1 v.2.2.2.2.2.2.1 v.2.2.2.2.2.2.2.1 v.2.2.2.2.2.2.2.2.1 v.2.2.2.2.2.2.2.2.2.1 v.2.2.2.2.2.2.2.2.2.2.1 v.2.2.2.2.2.2.2.2.2.2.2.1 v.2.2.2.2.2.2.2.2.2.2.2.2
@[irreducible] noncomputable def v0 : V := @Classical.epsilon V ⟨(aW, callerA, {}, PySem.Challenge.rw_rs0108_01.row.prog, [], fun _ => none, fun _ => none, fun _ => none, {}, 0, 0, 0, 0)⟩ fun v => ¬ P v
noncomputable def w : World := v0.1
noncomputable def A : Around := v0.2.1
noncomputable def s : Shared := v0.2.2.1
noncomputable def p : Program := v0.2.2.2.1
noncomputable def loose : List Str := v0.2.2.2.2.1
noncomputable def mean : ExcName → Option Value := v0.2.2.2.2.2.1
noncomputable def mg : Str → Option Value := v0.2.2.2.2.2.2.1
noncomputable def mb : Str → Option Value := v0.2.2.2.2.2.2.2.1
noncomputable def g : Heap := v0.2.2.2.2.2.2.2.2.1
noncomputable def a : Nat := v0.2.2.2.2.2.2.2.2.2.1
noncomputable def b : Nat := v0.2.2.2.2.2.2.2.2.2.2.1
noncomputable def ta : Tok := v0.2.2.2.2.2.2.2.2.2.2.2.1
noncomputable def tb : Tok := v0.2.2.2.2.2.2.2.2.2.2.2.2
set_option maxHeartbeats 8000000 in
theorem main (hg : ∀ b o, g.get? b = some o → s.heap.get? b = some o) (hgs : g.objs.size ≤ s.heap.objs.size) (g68 : g.get? 68 = none) (g75 : g.get? 75 = none) (hT1 : Tab68 s.heap) (hT2 : Tab75 s.heap) (hb0 : 0 < b) (hb : bitsN b ≤ 5000) (ha : a < 2 ^ 20000) (hl : (bitsN a + bitsN b - 1) / bitsN b ≤ 20) (C1 : CodeHd g 72 68) (C2 : CodeHd g 79 75) (X : (hd.heap_39 w.params).In g) (T : Top p loose mean mg mb g) (hroom : A.depth + 40 < recursionLimit) (hh : A.handled = none) :
    codeAny (model PySem.Challenge.rw_rs0108_01.row.prog w) A (.call (.ref 87) ⟨[.int a ta, .int b tb], []⟩) (RetM ((a / b : Nat) : Int) ((a % b : Nat) : Int) s) s := by
  w_top off
  revert X
  k_fill
  intro X
  have hg' := hide_keep (as := [68, 75]) hg (allC g68 (allC g75 allN))
  have hgk : ∀ b o, (hideAll s.heap [68, 75]).get? b = some o → s.heap.get? b = some o := fun b o e => of_hideAll _ e
  refine enterB (g := hideAll s.heap [68, 75]) (binds := [(Str.ofString "a", .int a ta), (Str.ofString "b", .int b tb)]) hgk (Nat.le_of_eq (hideAll_size _ _)) (X.keeps hg') (T.keeps hg') (by k_is) (by k_is) (by omega) rfl rfl ?_ (by decide) rfl rfl rfl
  intro h₁ F hk N
  replace C1 := C1.keeps hg'
  replace C2 := C2.keeps hg'
  replace X := X.keeps hg'
  replace T := T.keeps hg'
  obtain ⟨p1, hp1, hn1⟩ := tabN_of_base hT1
  obtain ⟨p2, hp2, hn2⟩ := tabN_of_base hT2
  have N2 : News (hideAll s.heap [68, 75]) s.heap.objs.size h₁ [(68, tabObj p1), (75, tabObj p2)] :=
    allC ⟨hk _ _ hp1, Nat.ne_of_lt (Heap.lt_size hp1), hideAll_none _ (.head _)⟩ (allC ⟨hk _ _ hp2, Nat.ne_of_lt (Heap.lt_size hp2), hideAll_none _ (.tail _ (.head _))⟩ allN)
  clear N
  obtain ⟨n, hn⟩ : ∃ n, n = bitsN b := ⟨_, rfl⟩
  have hbn : b < 2 ^ n := by rw [hn]; exact bitsN_le.mp (Nat.le_refl _)
  have hn0 : 0 < n := by
    rcases Nat.eq_zero_or_pos n with e | e
    · rw [e] at hbn; omega
    · exact e
  have hbn' : 2 ^ n ≤ 2 * b := by
    have h1 : ¬ bitsN b ≤ n - 1 := by omega
    have h2 : ¬ b < 2 ^ (n - 1) := fun h => h1 (bitsN_le.mpr h)
    have h3 : 2 ^ n = 2 ^ (n - 1) * 2 := by rw [← Nat.pow_succ]; congr 1; omega
    omega
  rw [← hn] at hb hl
  refine wp_cut 1 _ ?_
  dsimp only [List.take, List.drop]
  repeat' (first | ((with_reducible show wpAny _ _ (call (.builtin "list.append") _ _) _ _ _); refine append_head ‹_› ‹_› ‹_› ?_ ‹_›; intro _ _ _) | ((with_reducible show wpAny _ _ (call (.ref _) _ _) _ _ _); refine use_div2 ‹_› ‹_› ‹_› ‹_› ‹_› ‹_› ‹_› ‹_› ‹_› (by show _ + 1 + 25 < recursionLimit; omega) ‹_› ?_; intro _ _ _ _ _ _ _ _) | ((with_reducible show wpAny _ _ (assign (.Tuple ..) _ _) _ _ _); refine assign2 ‹_› ‹_› ‹_› ‹_› rfl rfl rfl ?_; intro _ _ _ _) | with_reducible (show wpAny _ _ (call (.builtin "int.bit_length") _ _) _ _ _; refine bitN ?_) | ((with_reducible show wpAny _ _ (binaryOp _ (.int _ _) (.int _ _)) _ _ _); first | with_reducible (refine shlN ‹_› ?_) | with_reducible (first | refine add1N ?_ | refine addN ?_)) | walk1)
  refine .mk ?_
  rename Fr _ _ _ _ => F3
  rename News _ _ _ _ => N3
  rw [← hn] at F3
  refine wp_cut 1 _ ?_
  dsimp only [List.take, List.drop]
  repeat' (first | ((with_reducible show wpAny _ _ (call (.builtin "list.append") _ _) _ _ _); refine append_head ‹_› ‹_› ‹_› ?_ ‹_›; intro _ _ _) | ((with_reducible show wpAny _ _ (call (.ref _) _ _) _ _ _); refine use_div2 ‹_› ‹_› ‹_› ‹_› ‹_› ‹_› ‹_› ‹_› ‹_› (by show _ + 1 + 25 < recursionLimit; omega) ‹_› ?_; intro _ _ _ _ _ _ _ _) | ((with_reducible show wpAny _ _ (assign (.Tuple ..) _ _) _ _ _); refine assign2 ‹_› ‹_› ‹_› ‹_› rfl rfl rfl ?_; intro _ _ _ _) | with_reducible (show wpAny _ _ (call (.builtin "int.bit_length") _ _) _ _ _; refine bitN ?_) | ((with_reducible show wpAny _ _ (binaryOp _ (.int _ _) (.int _ _)) _ _ _); first | with_reducible (refine shlN ‹_› ?_) | with_reducible (first | refine add1N ?_ | refine addN ?_)) | walk1)
  refine use_i2d F3 N3 (.head (by simp)) (TabN.mono hn1 (by simp)) hn0 hb ha hl C1 X T (by show A.depth + 1 + 30 < recursionLimit; omega) hh ?_
  intro h5 tk5 D vs nn p1' ex F5 N5 i5 t5 hex hne5
  try dsimp only at N5
  clear F3 N3
  repeat' (first | ((with_reducible show wpAny _ _ (call (.builtin "list.append") _ _) _ _ _); refine append_head ‹_› ‹_› ‹_› ?_ ‹_›; intro _ _ _) | ((with_reducible show wpAny _ _ (call (.ref _) _ _) _ _ _); refine use_div2 ‹_› ‹_› ‹_› ‹_› ‹_› ‹_› ‹_› ‹_› ‹_› (by show _ + 1 + 25 < recursionLimit; omega) ‹_› ?_; intro _ _ _ _ _ _ _ _) | ((with_reducible show wpAny _ _ (assign (.Tuple ..) _ _) _ _ _); refine assign2 ‹_› ‹_› ‹_› ‹_› rfl rfl rfl ?_; intro _ _ _ _) | with_reducible (show wpAny _ _ (call (.builtin "int.bit_length") _ _) _ _ _; refine bitN ?_) | ((with_reducible show wpAny _ _ (binaryOp _ (.int _ _) (.int _ _)) _ _ _); first | with_reducible (refine shlN ‹_› ?_) | with_reducible (first | refine add1N ?_ | refine addN ?_)) | walk1)
  refine .mk ?_
  rename Fr _ _ _ _ => F6
  rename News _ _ _ _ => N6
  refine wp_cut 2 _ ?_
  dsimp only [List.take, List.drop]
  repeat' (first | ((with_reducible show wpAny _ _ (call (.builtin "list.append") _ _) _ _ _); refine append_head ‹_› ‹_› ‹_› ?_ ‹_›; intro _ _ _) | ((with_reducible show wpAny _ _ (call (.ref _) _ _) _ _ _); refine use_div2 ‹_› ‹_› ‹_› ‹_› ‹_› ‹_› ‹_› ‹_› ‹_› (by show _ + 1 + 25 < recursionLimit; omega) ‹_› ?_; intro _ _ _ _ _ _ _ _) | ((with_reducible show wpAny _ _ (assign (.Tuple ..) _ _) _ _ _); refine assign2 ‹_› ‹_› ‹_› ‹_› rfl rfl rfl ?_; intro _ _ _ _) | with_reducible (show wpAny _ _ (call (.builtin "int.bit_length") _ _) _ _ _; refine bitN ?_) | ((with_reducible show wpAny _ _ (binaryOp _ (.int _ _) (.int _ _)) _ _ _); first | with_reducible (refine shlN ‹_› ?_) | with_reducible (first | refine add1N ?_ | refine addN ?_)) | walk1)
  refine .mk ?_
  rename Fr _ _ _ _ => F7
  rename News _ _ _ _ => N7
  refine wpAny_execs_cons (wpAny_For ?_ (fun _ => rfl))
  repeat' (first | ((with_reducible show wpAny _ _ (call (.builtin "list.append") _ _) _ _ _); refine append_head ‹_› ‹_› ‹_› ?_ ‹_›; intro _ _ _) | ((with_reducible show wpAny _ _ (call (.ref _) _ _) _ _ _); refine use_div2 ‹_› ‹_› ‹_› ‹_› ‹_› ‹_› ‹_› ‹_› ‹_› (by show _ + 1 + 25 < recursionLimit; omega) ‹_› ?_; intro _ _ _ _ _ _ _ _) | ((with_reducible show wpAny _ _ (assign (.Tuple ..) _ _) _ _ _); refine assign2 ‹_› ‹_› ‹_› ‹_› rfl rfl rfl ?_; intro _ _ _ _) | with_reducible (show wpAny _ _ (call (.builtin "int.bit_length") _ _) _ _ _; refine bitN ?_) | ((with_reducible show wpAny _ _ (binaryOp _ (.int _ _) (.int _ _)) _ _ _); first | with_reducible (refine shlN ‹_› ?_) | with_reducible (first | refine add1N ?_ | refine addN ?_)) | walk1)
  rename Fr _ _ _ _ => F8
  rename News _ _ _ _ => N8
  have hlen : vs.length = (bitsN a + n - 1) / n := by rw [i5.length]; simp [digs]
  rename (D < _ ∧ AllLt _ _) => l2
  rename (_ ∧ _ ∧ AllLt _ _) => lI
  have hDg : ∀ j, j < vs.length → (digs n a)[j]? = some ((a / 2 ^ (n * j) % 2 ^ n : Nat) : Int) := fun j hj => by
    rw [hlen] at hj
    simp [digs, List.getElem?_range hj]
  have hl20 : vs.length ≤ 20 := by rw [hlen]; exact hl
  have hroomA : a < 2 ^ (n * vs.length) := by rw [hlen]; exact digs_room hn0
  clear ha hl hp1 hp2 hT1 hT2 hlen
  refine forRev (news := [(_, _), (68, tabObj p1'), (75, tabObj p2)] ++ ex) (· = s.gens) F8 N8 (fun q hq => ?_) (fun q hq => ?_) (News.isList N8 (.tail _ (.tail _ (.head _)))) (Nat.ne_of_lt lI.2.1) (Ne.symm (N8 _ (.tail _ (.tail _ (.head _)))).2.1) hh rfl rfl rfl rfl (DJ n a b vs.length _ ((68, tabObj p1') :: (75, tabObj p2) :: ex)) ⟨[], 0, [], 0, _, _, _, DivSt.zero hroomA, rfl, rfl, rfl, rfl, rfl, .nil⟩ ?_ ?_
  · rcases List.mem_cons.mp hq with rfl | hq
    · exact .head _
    · exact .tail _ (.tail _ hq)
  · rcases List.mem_cons.mp hq with rfl | hq
    · exact lI.1
    · rcases List.mem_cons.mp hq with rfl | hq
      · exact lI.2.1
      · exact allLt_mem lI.2.2 q hq
  · rintro i v m₁ news₁ h6 tk6 gs6 own rfl hi hv ⟨qs, r, vs2, nn2, t1, t2, t3, st, m1, m2, m3, m4, rfl, hi2⟩ hnI hown F9 N9
    obtain ⟨t5', ht5⟩ := i5.get _ _ (hDg (vs.length - 1 - i) (by omega))
    rw [ht5] at hv
    cases hv
    obtain ⟨hlt, st'⟩ := st.next hb0 hi
    generalize a / 2 ^ (n * (vs.length - 1 - i)) % 2 ^ n = d at *
    have hrb : r < b := by rw [st.rem]; exact Nat.mod_lt _ hb0
    have hs1 : bitsN r + n ≤ 2 ^ 27 := by have := bitsN_le.mpr (Nat.lt_trans hrb hbn); omega
    have F10 := fr_known (k := Str.ofString "q_digits") (fr_known (k := Str.ofString "r") (fr_known (k := Str.ofString "n") (fr_known (k := Str.ofString "b") F9 m3) m2) m1) m4
    clear F9
    have hap : ∀ p ∈ (68, tabObj p1') :: (75, tabObj p2) :: (ex ++ own), p.1 ≠ _ := fun p hp e => by
      rcases List.mem_append.mp (show p ∈ ([(68, tabObj p1'), (75, tabObj p2)] ++ ex) ++ own from hp) with hp | hp
      · have h7 := allLt_mem l2.2 p hp
        rw [e] at h7
        exact Nat.lt_irrefl _ h7
      · rcases hown p hp with h | h
        · exact hnI _ (.head _) (by rw [← h, e])
        · have h7 := l2.1
          rw [← h, e] at h7
          exact Nat.lt_irrefl _ h7
    have hsz : vs2.toArray.size ≤ sizeLine := by
      have h1 : vs2.length = qs.length := by rw [hi2.length, natsI_len]
      have : (20 : Nat) ≤ sizeLine := by decide
      simp only [List.size_toArray]
      rw [h1, st.len]; omega
    clear lI l2 i5 t5 hne5 hDg
    repeat' (first | ((with_reducible show wpAny _ _ (call (.builtin "list.append") _ _) _ _ _); refine append_head ‹_› ‹_› ‹_› ?_ ‹_›; intro _ _ _) | ((with_reducible show wpAny _ _ (call (.ref _) _ _) _ _ _); refine use_div2 ‹_› ‹_› ‹_› ‹_› ‹_› ‹_› ‹_› ‹_› ‹_› (by show _ + 1 + 25 < recursionLimit; omega) ‹_› ?_; intro _ _ _ _ _ _ _ _) | ((with_reducible show wpAny _ _ (assign (.Tuple ..) _ _) _ _ _); refine assign2 ‹_› ‹_› ‹_› ‹_› rfl rfl rfl ?_; intro _ _ _ _) | with_reducible (show wpAny _ _ (call (.builtin "int.bit_length") _ _) _ _ _; refine bitN ?_) | ((with_reducible show wpAny _ _ (binaryOp _ (.int _ _) (.int _ _)) _ _ _); first | with_reducible (refine shlN ‹_› ?_) | with_reducible (first | refine add1N ?_ | refine addN ?_)) | walk1)
    rename Fr _ _ _ _ => F'
    rename News _ _ _ _ => N'
    have hpu : ∀ y, vs2.toArray.push y = (vs2 ++ [y]).toArray := fun y => by simp
    rw [hpu] at N'
    refine afterW (news₂ := (_, _) :: _) F' N' rfl (fun q hq e => ?_) ⟨qs ++ [(r * 2 ^ n + d) / b], (r * 2 ^ n + d) % b, _, _, _, _, _, st', rfl, rfl, rfl, rfl, rfl, ?_⟩
    · rcases List.mem_cons.mp hq with rfl | hq
      · exact hnI _ (.head _) (List.mem_singleton.mp e)
      · exact hnI _ (.tail _ hq) (List.mem_singleton.mp e)
    · rw [show natsI (qs ++ [(r * 2 ^ n + d) / b]) = natsI qs ++ [(((r * 2 ^ n + d) / b : Nat) : Int)] by simp [natsI]]
      exact hi2.append (.cons _ _ .nil)
  · rintro h6 tk6 gs6 m₁ news₁ rfl F9 N9 ⟨qs, r, vs2, nn2, t1, t2, t3, st, m1, m2, m3, m4, rfl, hi2⟩
    have F10 := fr_known (k := Str.ofString "q_digits") (fr_known (k := Str.ofString "r") (fr_known (k := Str.ofString "n") (fr_known (k := Str.ofString "b") F9 m3) m2) m1) m4
    clear F9
    dsimp only
    repeat' (first | ((with_reducible show wpAny _ _ (call (.builtin "list.append") _ _) _ _ _); refine append_head ‹_› ‹_› ‹_› ?_ ‹_›; intro _ _ _) | ((with_reducible show wpAny _ _ (call (.ref _) _ _) _ _ _); refine use_div2 ‹_› ‹_› ‹_› ‹_› ‹_› ‹_› ‹_› ‹_› ‹_› (by show _ + 1 + 25 < recursionLimit; omega) ‹_› ?_; intro _ _ _ _ _ _ _ _) | ((with_reducible show wpAny _ _ (assign (.Tuple ..) _ _) _ _ _); refine assign2 ‹_› ‹_› ‹_› ‹_› rfl rfl rfl ?_; intro _ _ _ _) | with_reducible (show wpAny _ _ (call (.builtin "int.bit_length") _ _) _ _ _; refine bitN ?_) | ((with_reducible show wpAny _ _ (binaryOp _ (.int _ _) (.int _ _)) _ _ _); first | with_reducible (refine shlN ‹_› ?_) | with_reducible (first | refine add1N ?_ | refine addN ?_)) | walk1)
    have hap : ∀ p ∈ (68, tabObj p1') :: (75, tabObj p2) :: ex, p.1 ≠ _ := fun p hp e => by
      have h7 := allLt_mem l2.2 p hp
      rw [e] at h7
      exact Nat.lt_irrefl _ h7
    have hqs : qs.length = vs.length := st.len
    have hsz : vs2.toArray.toList.length ≤ sizeLine := by
      have h1 : vs2.length = qs.length := by rw [hi2.length, natsI_len]
      have : (20 : Nat) ≤ sizeLine := by decide
      simp only []
      rw [h1]; omega
    have hrev : vs2.toArray.toList.reverse = vs2.reverse := by simp
    refine kl_reverse F10 N9 hrev (.head hap) hsz ?_
    intro h8 F11 N11
    clear F10 N9
    repeat' (first | ((with_reducible show wpAny _ _ (call (.builtin "list.append") _ _) _ _ _); refine append_head ‹_› ‹_› ‹_› ?_ ‹_›; intro _ _ _) | ((with_reducible show wpAny _ _ (call (.ref _) _ _) _ _ _); refine use_div2 ‹_› ‹_› ‹_› ‹_› ‹_› ‹_› ‹_› ‹_› ‹_› (by show _ + 1 + 25 < recursionLimit; omega) ‹_› ?_; intro _ _ _ _ _ _ _ _) | ((with_reducible show wpAny _ _ (assign (.Tuple ..) _ _) _ _ _); refine assign2 ‹_› ‹_› ‹_› ‹_› rfl rfl rfl ?_; intro _ _ _ _) | with_reducible (show wpAny _ _ (call (.builtin "int.bit_length") _ _) _ _ _; refine bitN ?_) | ((with_reducible show wpAny _ _ (binaryOp _ (.int _ _) (.int _ _)) _ _ _); first | with_reducible (refine shlN ‹_› ?_) | with_reducible (first | refine add1N ?_ | refine addN ?_)) | walk1)
    have hir : IntsAre vs2.reverse (natsI qs.reverse) := by
      have := IntsAre.reverse hi2
      simpa [natsI] using this
    refine use_d2i F11 N11 (.tail (hap _ (.tail _ (.head _))).symm (.tail (show (68 : Nat) ≠ 75 by decide) (.head fun q hq => (hex q hq).2))) (TabN.mono hn2 (by simp)) (.head _) hir (fun e he => st.lt e (by simpa using he)) (by rw [List.length_reverse, hqs]; exact hl20) hb C2 X T (by show A.depth + 1 + 30 < recursionLimit; omega) hh ?_
    intro h9 tk9 t9 p2' ex9 F12 N12 t75 hex9
    rw [st.val, Nat.sub_self, Nat.mul_zero, Nat.pow_zero, Nat.div_one]
    have hrem := st.rem
    rw [Nat.sub_self, Nat.mul_zero, Nat.pow_zero, Nat.div_one] at hrem
    subst hrem
    try dsimp only at N12
    clear F11 N11
    repeat' (first | ((with_reducible show wpAny _ _ (call (.builtin "list.append") _ _) _ _ _); refine append_head ‹_› ‹_› ‹_› ?_ ‹_›; intro _ _ _) | ((with_reducible show wpAny _ _ (call (.ref _) _ _) _ _ _); refine use_div2 ‹_› ‹_› ‹_› ‹_› ‹_› ‹_› ‹_› ‹_› ‹_› (by show _ + 1 + 25 < recursionLimit; omega) ‹_› ?_; intro _ _ _ _ _ _ _ _) | ((with_reducible show wpAny _ _ (assign (.Tuple ..) _ _) _ _ _); refine assign2 ‹_› ‹_› ‹_› ‹_› rfl rfl rfl ?_; intro _ _ _ _) | with_reducible (show wpAny _ _ (call (.builtin "int.bit_length") _ _) _ _ _; refine bitN ?_) | ((with_reducible show wpAny _ _ (binaryOp _ (.int _ _) (.int _ _)) _ _ _); first | with_reducible (refine shlN ‹_› ?_) | with_reducible (first | refine add1N ?_ | refine addN ?_)) | walk1)
    rename Fr _ _ _ _ => F'
    rename News _ _ _ _ => N'
    refine ⟨_, _, _, rfl, rfl, fun b o h1 h2 e => F'.keep b o (hideAll_get _ e (by simp [h1, h2])), ?_, ?_, _, _, _, _, rfl, (N' _ (.head _)).1, fun d1 d2 => ?_⟩
    · exact (t5.mono fun q hq _ _ => .tail _ (List.mem_append_left _ (.tail _ (.tail _ (.tail _ hq))))).tab F' N' (N' _ (.tail _ (.tail _ (.head _)))).1
    · exact (t75.mono fun q hq _ _ => .tail _ (List.mem_append_right _ hq)).tab F' N' (N' _ (.tail _ (.tail _ (.tail _ (.head _))))).1
    · cases q : s.heap.get? _ with
      | none => rfl
      | some o => exact absurd ((hideAll_get [68, 75] q (by simp [d1, d2])).symm.trans (N' _ (.head _)).2.2) nofun
theorem all (v : V) : P v := byEps (v0 := v0) (by unfold v0; rfl) main v
end kdmp_spec
theorem dmp_spec {w : World} {A : Around} {s : Shared} {p : Program} {loose : List Str} {mean : ExcName → Option Value} {mg : Str → Option Value} {mb : Str → Option Value} {g : Heap} {a b : Nat} {ta tb : Tok} (hg : ∀ b o, g.get? b = some o → s.heap.get? b = some o) (hgs : g.objs.size ≤ s.heap.objs.size) (g68 : g.get? 68 = none) (g75 : g.get? 75 = none) (hT1 : Tab68 s.heap) (hT2 : Tab75 s.heap) (hb0 : 0 < b) (hb : bitsN b ≤ 5000) (ha : a < 2 ^ 20000) (hl : (bitsN a + bitsN b - 1) / bitsN b ≤ 20) (C1 : CodeHd g 72 68) (C2 : CodeHd g 79 75) (X : (hd.heap_39 w.params).In g) (T : Top p loose mean mg mb g) (hroom : A.depth + 40 < recursionLimit) (hh : A.handled = none) :
    codeAny (model PySem.Challenge.rw_rs0108_01.row.prog w) A (.call (.ref 87) ⟨[.int a ta, .int b tb], []⟩) (RetM ((a / b : Nat) : Int) ((a % b : Nat) : Int) s) s := kdmp_spec.all (w, A, s, p, loose, mean, mg, mb, g, a, b, ta, tb) hg hgs g68 g75 hT1 hT2 hb0 hb ha hl C1 C2 X T hroom hh
end
section
variable {w : World} {A : Around} {s : Shared} {p : Program} {loose : List Str} {mean : ExcName → Option Value} {mg mb : Str → Option Value} {g : Heap} {L : Nat} {m : Str → Option Value} {E : Value → Shared → Prop} {Q : Value → Shared → Prop}
/-- _divmod_pos at a call: the tables stand ahead of the rest of the ledger -/
theorem use_dmp {a b : Nat} {ta tb : Tok} {p1 p2 : Array Value} {rest : List (Addr × Obj)} (F : Fr g L s.heap m) (N : News g L s.heap ((75, tabObj p2) :: (68, tabObj p1) :: rest)) (h1 : TN68 g rest p1) (h2 : TN75 g rest p2) (ho : ∀ q ∈ rest, q.1 ≠ 68 ∧ q.1 ≠ 75) (hb0 : 0 < b) (hb : bitsN b ≤ 5000) (ha : a < 2 ^ 20000) (hl : (bitsN a + bitsN b - 1) / bitsN b ≤ 20) (C1 : CodeHd g 72 68) (C2 : CodeHd g 79 75)
    (X : (hd.heap_39 w.params).In g) (T : Top p loose mean mg mb g) (hroom : A.depth + 40 < recursionLimit) (hh : A.handled = none)
    (h : ∀ h' tk D t1 t2 n p1' p2' ex, Fr g L h' m → News g L h' ((D, { cls := .type "tuple", data := .seq #[.int ((a / b : Nat) : Int) t1, .int ((a % b : Nat) : Int) t2] n }) :: (75, tabObj p2') :: (68, tabObj p1') :: (ex ++ rest)) → TN68 g (ex ++ rest) p1' → TN75 g (ex ++ rest) p2' → (∀ q ∈ ex, q.1 ≠ 68 ∧ q.1 ≠ 75) → (∀ q ∈ rest, q.1 ≠ D) → D ≠ 68 ∧ D ≠ 75 → Q (.ref D) { s with heap := h', toks := tk }) :
    wpAny (model PySem.Challenge.rw_rs0108_01.row.prog w) A (call (.ref 87) [.int a ta, .int b tb]) Q E s := by
  have m75 := N _ (.head _)
  have m68 := N _ (.tail _ (.head _))
  have N1 := fun q hq => N q (.tail _ (.tail _ hq))
  refine wpAny_call (codeAny_mono (dmp_spec F.keep (Nat.le_trans F.above (Nat.le_of_lt F.ns.lt)) m68.2.2 m75.2.2 (h1.tab F N1 m68.1) (h2.tab F N1 m75.1) hb0 hb ha hl C1 C2 X T hroom hh) ?_)
  rintro r s' ⟨v, h', tk, rfl, rfl, hk, hT1, hT2, D, t1, t2, n, rfl, hD, hfr⟩
  have F' : Fr g L h' m := ⟨F.ns.at' fun o e => hk _ o (Ne.symm m68.2.1) (Ne.symm m75.2.1) e, fun b o e => hk b o (fun q => by rw [q, m68.2.2] at e; cases e) (fun q => by rw [q, m75.2.2] at e; cases e) (F.keep b o e), F.above⟩
  obtain ⟨p1', e1, hP1, n1, x1, y1⟩ := tabN_next F' hT1
  obtain ⟨p2', e2, hP2, n2, x2, y2⟩ := tabN_next F' hT2
  have d1 : D ≠ 68 := fun e => by rw [e, hP1] at hD; cases hD
  have d2 : D ≠ 75 := fun e => by rw [e, hP2] at hD; cases hD
  have hno := hfr d1 d2
  refine h h' tk D t1 t2 n p1' p2' (e1 ++ e2) F' ?_ (n1.mono fun q hq _ _ => by simp [hq]) (n2.mono fun q hq _ _ => by simp [hq]) ?_ ?_ ⟨d1, d2⟩
  · refine allC ?_ (allC ⟨hP2, m75.2⟩ (allC ⟨hP1, m68.2⟩ fun q hq => (List.mem_append.mp hq).elim (fun hq => (List.mem_append.mp hq).elim (x1 q) (x2 q)) fun hq => ⟨hk _ _ (ho q hq).1 (ho q hq).2 (N1 q hq).1, (N1 q hq).2⟩))
    · refine ⟨hD, fun e => ?_, ?_⟩
      · obtain ⟨oL, es, ep, hL, _⟩ := F.ns
        have e : D = L := e
        rw [e, hL] at hno; cases hno
      · cases q : g.get? D with
        | none => rfl
        | some o => rw [F.keep _ _ q] at hno; cases hno
  · intro q hq
    rcases List.mem_append.mp hq with hq | hq
    · exact y1 q hq
    · exact y2 q hq
  · intro q hq e
    have := (N1 q hq).1
    rw [e, hno] at this; cases this
end
end Mine
end
-- part PlB
section
open PySem PySem.W PySem.Calls PyProof.Rows
namespace Mine
/-- a row: how often it was sent, its cell, whether it is the last -/
structure Blk where
  n : Nat
  c : Int
  b : Bool
noncomputable def Blk.txt (x : Blk) : List Nat := List.replicate (1 + x.n) 46 ++ tailL x.c ++ (if 0 < x.n then sentL x.b x.c else endL x.b x.c)
noncomputable def Blk.up (k : Nat) (x : Blk) : Blk := ⟨x.n + k, x.c, x.b⟩
theorem fix_rep {l : List Nat} : ∀ n, fixL (List.replicate n 46 ++ l) = List.replicate n 46 ++ fixL l
  | 0 => rfl
  | n + 1 => by rw [List.replicate_succ, List.cons_append, fixL_plain (by decide) (by decide), fix_rep n]; rfl
theorem quote_rep {l : List Nat} : ∀ n, quoteL false (List.replicate n 46 ++ l) = List.replicate n 46 ++ quoteL false l
  | 0 => rfl
  | n + 1 => by rw [List.replicate_succ, List.cons_append, quoteL, show ((46 : Nat) == 10) = false from rfl, quote_rep n]; rfl
theorem quote_dot {l : List Nat} (n : Nat) : quoteL true (List.replicate (1 + n) 46 ++ l) = List.replicate (1 + (n + 1)) 46 ++ quoteL false l := by
  rw [Nat.add_comm 1 n, List.replicate_succ, List.cons_append, quoteL, show ((46 : Nat) == 10) = false from rfl, quote_rep, show 1 + (n + 1) = n + 1 + 1 by omega, List.replicate_succ, List.replicate_succ]
  rfl
theorem tails (c : Int) : tailL c = [] ∨ tailL c = [97] ∨ tailL c = [98, 46] ∨ tailL c = [11, 46] := by
  unfold tailL; repeat' split
  all_goals simp
theorem ends (c : Int) : (endL false c = [10] ∧ sentL false c = [13, 10]) ∨ (endL false c = [13] ∧ sentL false c = [13, 10]) ∨ (endL false c = [13, 10] ∧ sentL false c = [13, 10]) ∨ (endL false c = [10, 13, 97, 46, 13] ∧ sentL false c = [13, 10, 13, 10, 97, 46, 13, 10]) := by
  have h0 := Int.fmod_nonneg_of_pos (c.fdiv 8) (show (0 : Int) < 4 by decide)
  have h1 := Int.fmod_lt_of_pos (c.fdiv 8) (show (0 : Int) < 4 by decide)
  have : (c.fdiv 8).fmod 4 = 0 ∨ (c.fdiv 8).fmod 4 = 1 ∨ (c.fdiv 8).fmod 4 = 2 ∨ (c.fdiv 8).fmod 4 = 3 := by omega
  rcases this with h | h | h | h <;> simp [endL, sentL, h]
theorem fix_tail {c : Int} {l : List Nat} : fixL (tailL c ++ l) = tailL c ++ fixL l := by
  rcases tails c with h | h | h | h <;> rw [h] <;> simp only [List.cons_append, List.nil_append]
  · rw [fixL_plain (by decide) (by decide)]
  · rw [fixL_plain (by decide) (by decide), fixL_plain (by decide) (by decide)]
  · rw [fixL_plain (by decide) (by decide), fixL_plain (by decide) (by decide)]
theorem quote_tail {c : Int} {l : List Nat} : quoteL false (tailL c ++ l) = tailL c ++ quoteL false l := by
  rcases tails c with h | h | h | h <;> rw [h] <;> rfl
/-- the end of a row, made one -/
theorem fix_end {c : Int} {l : List Nat} (hl : l.head? ≠ some 10) : fixL (endL false c ++ l) = sentL false c ++ fixL l := by
  rcases ends c with ⟨h, h'⟩ | ⟨h, h'⟩ | ⟨h, h'⟩ | ⟨h, h'⟩ <;> rw [h, h'] <;> simp only [List.cons_append, List.nil_append]
  · rw [fixL_lf]
  · rw [fixL_cr hl]
  · rw [fixL_crlf]
  · rw [fixL_lf, fixL_cr (by simp), fixL_plain (by decide) (by decide), fixL_plain (by decide) (by decide), fixL_cr hl]
theorem fix_sent {c : Int} {l : List Nat} : fixL (sentL false c ++ l) = sentL false c ++ fixL l := by
  rcases ends c with ⟨h, h'⟩ | ⟨h, h'⟩ | ⟨h, h'⟩ | ⟨h, h'⟩ <;> rw [h'] <;> simp only [List.cons_append, List.nil_append]
  · rw [fixL_crlf]
  · rw [fixL_crlf]
  · rw [fixL_crlf]
  · rw [fixL_crlf, fixL_crlf, fixL_plain (by decide) (by decide), fixL_plain (by decide) (by decide), fixL_crlf]
theorem quote_sent {c : Int} {l : List Nat} : quoteL false (sentL false c ++ l) = sentL false c ++ quoteL true l := by
  rcases ends c with ⟨h, h'⟩ | ⟨h, h'⟩ | ⟨h, h'⟩ | ⟨h, h'⟩ <;> rw [h'] <;> rfl
theorem send_blk {x : Blk} {l : List Nat} (hb : x.b = false) (hl : l.head? ≠ some 10) : sendL (x.txt ++ l) = (x.up 1).txt ++ sendL l := by
  obtain ⟨n, c, b⟩ := x
  simp only at hb
  subst hb
  unfold sendL Blk.txt Blk.up
  have e : fixL (List.replicate (1 + n) 46 ++ tailL c ++ (if 0 < n then sentL false c else endL false c) ++ l) = List.replicate (1 + n) 46 ++ (tailL c ++ (sentL false c ++ fixL l)) := by
    rw [List.append_assoc, List.append_assoc, fix_rep, fix_tail]
    congr 2
    split
    · exact fix_sent
    · exact fix_end hl
  rw [e, quote_dot, quote_tail, quote_sent, if_pos (Nat.succ_pos _)]
  simp only [List.append_assoc]
theorem send_last {x : Blk} (hb : x.b = true) : sendL x.txt = (x.up 1).txt := by
  obtain ⟨n, c, b⟩ := x
  simp only at hb
  subst hb
  unfold sendL Blk.txt Blk.up
  have e1 : (if 0 < n then sentL true c else endL true c) = [] := by split <;> rfl
  have e2 : (if 0 < n + 1 then sentL true c else endL true c) = [] := by split <;> rfl
  rw [e1, e2, List.append_nil, List.append_nil]
  have e : fixL (List.replicate (1 + n) 46 ++ tailL c) = List.replicate (1 + n) 46 ++ tailL c := by
    rw [fix_rep]
    have := fix_tail (c := c) (l := [])
    rw [List.append_nil] at this
    rw [this]; simp [fixL]
  rw [e, quote_dot]
  have := quote_tail (c := c) (l := [])
  rw [List.append_nil] at this
  rw [this]; simp [quoteL]
noncomputable def blkT (l : List Blk) : List Nat := l.flatMap Blk.txt
theorem blk_head {x : Blk} {l : List Nat} : (x.txt ++ l).head? ≠ some 10 := by
  unfold Blk.txt
  rw [Nat.add_comm, List.replicate_succ]; simp
theorem blkT_head : ∀ l : List Blk, (blkT l).head? ≠ some 10
  | [] => by simp [blkT]
  | x :: r => by
    show (x.txt ++ blkT r).head? ≠ some 10
    exact blk_head
/-- only the last row of all may lack its end -/
inductive Open : List Blk → Prop where
  | nil : Open []
  | last (x : Blk) : Open [x]
  | more (x : Blk) (l : List Blk) : x.b = false → Open l → Open (x :: l)
theorem send_blks {l : List Blk} (h : Open l) : sendL (blkT l) = blkT (l.map (Blk.up 1)) := by
  induction h with
  | nil => rfl
  | last x =>
    show sendL (x.txt ++ []) = (x.up 1).txt ++ []
    rw [List.append_nil, List.append_nil]
    cases hb : x.b with
    | true => exact send_last hb
    | false =>
      have := send_blk (l := []) hb (by simp)
      rw [List.append_nil] at this
      rw [this]; simp [sendL, fixL, quoteL]
  | more x l hb _ ih =>
    show sendL (x.txt ++ blkT l) = (x.up 1).txt ++ blkT (l.map (Blk.up 1))
    rw [send_blk hb (blkT_head l), ih]
theorem Open.snoc {x : Blk} : ∀ {l : List Blk}, (∀ y ∈ l, y.b = false) → Open (l ++ [x])
  | [], _ => .last x
  | y :: r, h => .more y _ (h y (.head _)) (Open.snoc fun z hz => h z (.tail _ hz))
theorem Open.map {k : Nat} {l : List Blk} (h : Open l) : Open (l.map (Blk.up k)) := by
  induction h with
  | nil => exact .nil
  | last x => exact .last _
  | more x l hb _ ih => exact .more _ _ hb ih
/-- what is due, from the right -/
noncomputable def dueR (r : List Nat) (ns : List Int) (last : Int) : List Int → Nat → List Nat
  | [], _ => []
  | k :: ts, n => if isO r k then Blk.txt ⟨n, ns.getD k.toNat 0, k == last⟩ ++ dueR r ns last ts n else dueR r ns last ts (n - 1)
noncomputable def nonO (r : List Nat) (ts : List Int) : Nat := (ts.filter fun k => !isO r k).length
theorem mapup {l : List Blk} {a b : Nat} : (l.map (Blk.up a)).map (Blk.up b) = l.map (Blk.up (a + b)) := by
  rw [List.map_map]
  refine List.map_congr_left fun x _ => ?_
  simp [Blk.up, Nat.add_assoc]
theorem mapup0 {l : List Blk} : l.map (Blk.up 0) = l := by
  have : (Blk.up 0) = id := by funext x; simp [Blk.up]
  rw [this, List.map_id]
theorem mail_eq {r : List Nat} {ns : List Int} {last : Int} : ∀ (ts : List Int) (l : List Blk), Open l → (ts.filter (isO r) ≠ [] → ∀ y ∈ l, y.b = false) → (∀ a ∈ ts, a = last → isO r a = true → (ts.filter (isO r)).getLast? = some a) → ts.Nodup →
    ts.foldl (mailStep r ns last) (blkT l) = blkT (l.map (Blk.up (nonO r ts))) ++ dueR r ns last ts (nonO r ts)
  | [], l, _, _, _, _ => by
    rw [show nonO r [] = 0 from rfl, mapup0]
    simp [dueR]
  | k :: ts, l, hO, hb, hl, hn => by
    rw [List.foldl_cons]
    have hn' := (List.nodup_cons.mp hn).2
    cases hk : isO r k with
    | true =>
      have e0 : nonO r (k :: ts) = nonO r ts := by simp [nonO, hk]
      have ef : (k :: ts).filter (isO r) = k :: ts.filter (isO r) := by rw [List.filter_cons, if_pos hk]
      have hbl : ∀ y ∈ l, y.b = false := hb (by rw [ef]; exact List.cons_ne_nil _ _)
      have e1 : mailStep r ns last (blkT l) k = blkT (l ++ [⟨0, ns.getD k.toNat 0, k == last⟩]) := by
        unfold mailStep
        rw [if_pos hk]
        simp [blkT, Blk.txt]
      rw [e1, mail_eq ts _ (Open.snoc hbl) ?_ ?_ hn', e0, dueR, if_pos hk]
      · simp [blkT, Blk.up]
      · intro hne y hy
        rcases List.mem_append.mp hy with hy | hy
        · exact hbl y hy
        · rw [List.mem_singleton.mp hy]
          show (k == last) = false
          cases hkl : k == last with
          | false => rfl
          | true =>
            exfalso
            have := hl k (.head _) (by simpa using hkl) hk
            rw [ef] at this
            rw [List.getLast?_cons_of_ne_nil hne] at this
            have hm := List.mem_of_getLast? this
            exact (List.nodup_cons.mp hn).1 (List.mem_filter.mp hm).1
      · intro a ha e h1
        have := hl a (.tail _ ha) e h1
        rw [ef] at this
        have hne : ts.filter (isO r) ≠ [] := List.ne_nil_of_mem (List.mem_filter.mpr ⟨ha, h1⟩)
        rwa [List.getLast?_cons_of_ne_nil hne] at this
    | false =>
      have hk' : ¬ isO r k = true := by rw [hk]; simp
      have e0 : nonO r (k :: ts) = nonO r ts + 1 := by simp [nonO, hk]
      have ef : (k :: ts).filter (isO r) = ts.filter (isO r) := by rw [List.filter_cons, if_neg hk']
      rw [ef] at hb
      have e1 : mailStep r ns last (blkT l) k = blkT (l.map (Blk.up 1)) := by
        unfold mailStep
        rw [if_neg hk']
        exact send_blks hO
      rw [e1, mail_eq ts _ hO.map ?_ ?_ hn', e0, dueR, if_neg hk', mapup, Nat.add_sub_cancel, Nat.add_comm 1]
      · intro hne y hy
        obtain ⟨z, hz, rfl⟩ := List.mem_map.mp hy
        exact hb hne z hz
      · intro a ha e h1
        have := hl a (.tail _ ha) e h1
        rwa [ef] at this
theorem due_eq {r : List Nat} {ns : List Int} {last : Int} : ∀ (ts : List Int) (n : Nat) (acc : List Nat), nonO r ts ≤ n → (ts.foldl (dueStep r ns last) ((n : Int), acc)).2 = acc ++ dueR r ns last ts n
  | [], n, acc, _ => by simp [dueR]
  | k :: ts, n, acc, h => by
    rw [List.foldl_cons]
    cases hk : isO r k with
    | true =>
      have e0 : nonO r (k :: ts) = nonO r ts := by simp [nonO, hk]
      rw [dueR, if_pos hk]
      have e1 : dueStep r ns last ((n : Int), acc) k = ((n : Int), acc ++ Blk.txt ⟨n, ns.getD k.toNat 0, k == last⟩) := by
        unfold dueStep
        rw [if_pos hk]
        have e2 : (1 + (n : Int)).toNat = 1 + n := by omega
        have e3 : ((0 : Int) < (n : Int)) = (0 < n) := by simp
        simp only [e2, e3, Blk.txt, List.append_assoc]
      rw [e1, due_eq ts n _ (by omega), List.append_assoc]
    | false =>
      have hk' : ¬ isO r k = true := by rw [hk]; simp
      have e0 : nonO r (k :: ts) = nonO r ts + 1 := by simp [nonO, hk]
      rw [dueR, if_neg hk']
      have e1 : dueStep r ns last ((n : Int), acc) k = (((n - 1 : Nat) : Int), acc) := by
        unfold dueStep
        rw [if_neg hk']
        simp only
        congr 1
        omega
      rw [e1, due_eq ts (n - 1) acc (by omega)]
end Mine
end
-- part PlC
section
open PySem PySem.W PySem.Calls PyProof.Rows PySem.Builtin PySem.Builtin.Str
namespace Mine
/-- the rows of a text -/
noncomputable def splitL : List Nat → List (List Nat)
  | [] => [[]]
  | c :: r => if c = 10 then [] :: splitL r else match splitL r with
    | [] => [[c]]
    | p :: q => (c :: p) :: q
theorem split_row {l : List Nat} : ∀ p : List Nat, 10 ∉ p → splitL (p ++ 10 :: l) = p :: splitL l
  | [], _ => by simp [splitL]
  | c :: r, h => by
    have h1 : c ≠ 10 := fun e => h (by rw [e]; exact .head _)
    rw [List.cons_append, splitL, if_neg h1, split_row r fun q => h (.tail _ q)]
theorem split_one : ∀ p : List Nat, 10 ∉ p → splitL p = [p]
  | [], _ => rfl
  | c :: r, h => by
    have h1 : c ≠ 10 := fun e => h (by rw [e]; exact .head _)
    rw [splitL, if_neg h1, split_one r fun q => h (.tail _ q)]
theorem split_join : ∀ P : List Str, 1 ≤ P.length → (∀ p ∈ P, 10 ∉ p.cps.toList) → splitL (Str.join ⟨#[10]⟩ P).cps.toList = P.map fun p => p.cps.toList
  | [], h, _ => by simp at h
  | [p], _, h => split_one _ (h p (.head _))
  | p :: q :: r, _, h => by
    show splitL (p ++ ⟨#[10]⟩ ++ Str.join ⟨#[10]⟩ (q :: r)).cps.toList = _
    rw [Str.cps_append, Array.toList_append, Str.cps_append, Array.toList_append, List.append_assoc]
    show splitL (p.cps.toList ++ 10 :: (Str.join ⟨#[10]⟩ (q :: r)).cps.toList) = _
    rw [split_row _ (h p (.head _)), split_join (q :: r) (by simp) fun z hz => h z (.tail _ hz)]
    rfl
theorem split_list (x : Str) : (Txt.split x ⟨#[10]⟩).map (fun p => p.cps.toList) = splitL x.cps.toList := by
  rw [← split_join _ (split_pos x ⟨#[10]⟩) (StrLaws.split_free x 10), StrLaws.join_split]
noncomputable def nl (c : Nat) : Nat := if c = 13 then 10 else c
theorem nl_free : ∀ l : List Nat, 13 ∉ l → l.map nl = l
  | [], _ => rfl
  | c :: r, h => by
    have h1 : c ≠ 13 := fun e => h (by rw [e]; exact .head _)
    rw [List.map_cons, nl_free r fun q => h (.tail _ q), nl, if_neg h1]
theorem nl_join : ∀ P : List Str, (∀ p ∈ P, 13 ∉ p.cps.toList) → (Str.join ⟨#[13]⟩ P).cps.toList.map nl = (Str.join ⟨#[10]⟩ P).cps.toList
  | [], _ => rfl
  | [p], h => nl_free _ (h p (.head _))
  | p :: q :: r, h => by
    show (p ++ ⟨#[13]⟩ ++ Str.join ⟨#[13]⟩ (q :: r)).cps.toList.map nl = (p ++ ⟨#[10]⟩ ++ Str.join ⟨#[10]⟩ (q :: r)).cps.toList
    simp only [Str.cps_append, Array.toList_append, List.map_append]
    rw [nl_free _ (h p (.head _)), nl_join (q :: r) fun z hz => h z (.tail _ hz)]
    rfl
theorem replace_nl (x : Str) : (Txt.replace x ⟨#[13]⟩ ⟨#[10]⟩).cps.toList = x.cps.toList.map nl := by
  rw [StrLaws.replace_one, ← nl_join _ (StrLaws.split_free x 13), StrLaws.join_split]
/-- the dots that a row is said to have -/
noncomputable def rowV (l : List Nat) : Int := if l.head? = some 46 then ((l.takeWhile (· == 46)).length : Int) - 1 else 0
theorem rowDots_eq (y : Str) : rowDots y = ((y.cps.toList.takeWhile (· == 46)).length : Int) - 1 := by
  have hp : (fun c : Nat => (Str.ofString ".").cps.contains c) = (· == 46) := by
    funext c
    rw [show Str.ofString "." = ⟨#[46]⟩ by decide +kernel]
    by_cases h : c = 46
    · subst h; simp
    · simp [h]
  have e : Txt.lstripChars y (Str.ofString ".") = strSub y (y.cps.toList.takeWhile (· == 46)).length y.length := by
    unfold Txt.lstripChars
    rw [PyProof.Rows.stripBy_eq]
    simp only [stripLo, stripHi, if_true]
    rw [← hp]
    rfl
  have hl : (y.cps.toList.takeWhile (· == 46)).length ≤ y.length := by
    have h1 := takeWhile_len_le (· == 46) y.cps.toList
    have h2 : y.cps.toList.length = y.length := by simp [Str.length]
    omega
  have e2 : (strSub y (y.cps.toList.takeWhile (· == 46)).length y.length).length = y.length - (y.cps.toList.takeWhile (· == 46)).length := by
    have h2 : y.cps.toList.length = y.length := by simp [Str.length]
    have h3 : (strSub y (y.cps.toList.takeWhile (· == 46)).length y.length).length = (strSub y (y.cps.toList.takeWhile (· == 46)).length y.length).cps.toList.length := by simp [Str.length]
    rw [h3, StrLaws.strSub_toList, List.length_take, List.length_drop, h2]
    omega
  unfold rowDots
  rw [e, e2]
  omega
theorem sum_filter (f : Str → Int) (p : Str → Bool) : ∀ l : List Str, ((l.filter p).map f).sum = (l.map fun y => if p y then f y else 0).sum
  | [] => rfl
  | y :: r => by
    rw [List.filter_cons, List.map_cons, List.sum_cons, ← sum_filter f p r]
    split <;> simp_all
noncomputable def RV (l : List Nat) : Int := ((splitL (l.map nl)).map rowV).sum
theorem laid_eq (l : List Nat) : laidS (mkS l) = RV l := by
  unfold laidS RV
  rw [show Str.ofString "\r" = ⟨#[13]⟩ by decide +kernel, show Str.ofString "\n" = ⟨#[10]⟩ by decide +kernel, sum_filter]
  have e := split_list (Txt.replace (mkS l) ⟨#[13]⟩ ⟨#[10]⟩)
  rw [replace_nl] at e
  rw [show (mkS l).cps.toList = l from rfl] at e
  rw [← e, List.map_map]
  congr 1
  refine List.map_congr_left fun y _ => ?_
  show _ = rowV y.cps.toList
  unfold rowV isDot
  rw [rowDots_eq]
  by_cases h : y.cps.toList.head? = some 46
  · rw [if_pos h, if_pos (by rw [h]; rfl)]
  · rw [if_neg h, if_neg (by simpa using h)]
noncomputable def Plain (l : List Nat) : Prop := ∀ c ∈ l, c ≠ 10 ∧ c ≠ 13
theorem plain_nl {p : List Nat} (h : Plain p) : p.map nl = p := nl_free p fun q => (h 13 q).2 rfl
theorem RV_row {p l : List Nat} {c : Nat} (h : Plain p) (hc : c = 10 ∨ c = 13) : RV (p ++ c :: l) = rowV p + RV l := by
  unfold RV
  rw [List.map_append, List.map_cons, plain_nl h, show nl c = 10 by rcases hc with rfl | rfl <;> rfl, split_row _ fun q => (h 10 q).1 rfl, List.map_cons, List.sum_cons]
theorem RV_one {p : List Nat} (h : Plain p) : RV p = rowV p := by
  unfold RV
  rw [plain_nl h, split_one _ fun q => (h 10 q).1 rfl]
  simp
theorem RV_nl {l : List Nat} {c : Nat} (hc : c = 10 ∨ c = 13) : RV (c :: l) = RV l := by
  have := RV_row (p := []) (l := l) (c := c) (fun _ h => absurd h List.not_mem_nil) hc
  rw [List.nil_append] at this
  rw [this]; simp [rowV]
theorem RV_a {l : List Nat} {c : Nat} (hc : c = 10 ∨ c = 13) : RV (97 :: 46 :: c :: l) = RV l := by
  have := RV_row (p := [97, 46]) (l := l) (c := c) (fun x h => by simp at h; omega) hc
  rw [show [97, 46] ++ c :: l = 97 :: 46 :: c :: l from rfl] at this
  rw [this]; simp [rowV]
theorem row_plain (n : Nat) (c : Int) : Plain (List.replicate (1 + n) 46 ++ tailL c) := by
  intro x hx
  rcases List.mem_append.mp hx with hx | hx
  · rw [List.eq_of_mem_replicate hx]; decide
  · rcases tails c with h | h | h | h <;> rw [h] at hx <;> simp at hx <;> omega
theorem take_rep (l : List Nat) (hl : l.head? ≠ some 46) : ∀ n, ((List.replicate n 46 ++ l).takeWhile (· == 46)).length = n
  | 0 => by
    cases l with
    | nil => rfl
    | cons c r =>
      have : c ≠ 46 := by simpa using hl
      simp [this]
  | n + 1 => by
    rw [List.replicate_succ, List.cons_append, List.takeWhile_cons, if_pos (by rfl), List.length_cons, take_rep l hl n]
theorem row_val (n : Nat) (c : Int) : rowV (List.replicate (1 + n) 46 ++ tailL c) = n := by
  unfold rowV
  rw [if_pos (by rw [Nat.add_comm, List.replicate_succ]; rfl), take_rep _ (by rcases tails c with h | h | h | h <;> rw [h] <;> simp)]
  omega
theorem RV_end {n : Nat} {c : Int} {l : List Nat} : RV (List.replicate (1 + n) 46 ++ tailL c ++ (endL false c ++ l)) = n + RV l := by
  have hp := row_plain n c
  rw [← row_val n c]
  generalize List.replicate (1 + n) 46 ++ tailL c = p at hp ⊢
  rcases ends c with ⟨h, h'⟩ | ⟨h, h'⟩ | ⟨h, h'⟩ | ⟨h, h'⟩ <;> rw [h] <;> simp only [List.cons_append, List.nil_append]
  · rw [RV_row hp (.inl rfl)]
  · rw [RV_row hp (.inr rfl)]
  · rw [RV_row hp (.inr rfl), RV_nl (.inl rfl)]
  · rw [RV_row hp (.inl rfl), RV_nl (.inr rfl), RV_a (.inr rfl)]
theorem RV_sent {n : Nat} {c : Int} {l : List Nat} : RV (List.replicate (1 + n) 46 ++ tailL c ++ (sentL false c ++ l)) = n + RV l := by
  have hp := row_plain n c
  rw [← row_val n c]
  generalize List.replicate (1 + n) 46 ++ tailL c = p at hp ⊢
  rcases ends c with ⟨h, h'⟩ | ⟨h, h'⟩ | ⟨h, h'⟩ | ⟨h, h'⟩ <;> rw [h'] <;> simp only [List.cons_append, List.nil_append]
  · rw [RV_row hp (.inr rfl), RV_nl (.inl rfl)]
  · rw [RV_row hp (.inr rfl), RV_nl (.inl rfl)]
  · rw [RV_row hp (.inr rfl), RV_nl (.inl rfl)]
  · rw [RV_row hp (.inr rfl), RV_nl (.inl rfl), RV_nl (.inr rfl), RV_nl (.inl rfl), RV_a (.inr rfl), RV_nl (.inl rfl)]
theorem RV_blk {n : Nat} {c : Int} {l : List Nat} : RV (Blk.txt ⟨n, c, false⟩ ++ l) = n + RV l := by
  unfold Blk.txt
  rw [List.append_assoc]
  simp only
  split
  · exact RV_sent
  · exact RV_end
theorem RV_last {n : Nat} {c : Int} : RV (Blk.txt ⟨n, c, true⟩) = n := by
  unfold Blk.txt
  have e1 : (if 0 < n then sentL true c else endL true c) = [] := by split <;> rfl
  simp only
  rw [e1, List.append_nil, RV_one (row_plain n c), row_val]
/-- the pairs of an opening bracket ahead of a closing one -/
noncomputable def invR (r : List Nat) : List Int → Nat → Int
  | [], _ => 0
  | k :: ts, n => if isO r k then (n : Int) + invR r ts n else invR r ts (n - 1)
theorem due_none {r : List Nat} {ns : List Int} {last : Int} : ∀ (ts : List Int) (n : Nat), ts.filter (isO r) = [] → dueR r ns last ts n = [] ∧ invR r ts n = 0
  | [], n, _ => ⟨rfl, rfl⟩
  | k :: ts, n, h => by
    have hk : isO r k ≠ true := fun e => by rw [List.filter_cons, if_pos e] at h; cases h
    rw [List.filter_cons, if_neg hk] at h
    rw [dueR, invR, if_neg hk, if_neg hk]
    exact due_none ts (n - 1) h
theorem RV_due {r : List Nat} {ns : List Int} {last : Int} : ∀ (ts : List Int) (n : Nat), (∀ a ∈ ts, a = last → isO r a = true → (ts.filter (isO r)).getLast? = some a) → ts.Nodup → RV (dueR r ns last ts n) = invR r ts n
  | [], n, _, _ => by simp [dueR, invR, RV, splitL, rowV]
  | k :: ts, n, hl, hn => by
    have hn' := (List.nodup_cons.mp hn).2
    cases hk : isO r k with
    | true =>
      have ef : (k :: ts).filter (isO r) = k :: ts.filter (isO r) := by rw [List.filter_cons, if_pos hk]
      rw [dueR, invR, if_pos hk, if_pos hk]
      cases hkl : k == last with
      | true =>
        have hnil : ts.filter (isO r) = [] := by
          cases hf : ts.filter (isO r) with
          | nil => rfl
          | cons a b =>
            exfalso
            have := hl k (.head _) (by simpa using hkl) hk
            rw [ef, List.getLast?_cons_of_ne_nil (by rw [hf]; exact List.cons_ne_nil _ _)] at this
            exact (List.nodup_cons.mp hn).1 (List.mem_filter.mp (List.mem_of_getLast? this)).1
        obtain ⟨e1, e2⟩ := due_none (ns := ns) (last := last) ts n hnil
        rw [e1, e2, List.append_nil, RV_last]; omega
      | false =>
        rw [RV_blk, RV_due ts n ?_ hn']
        intro a ha e h1
        have := hl a (.tail _ ha) e h1
        rw [ef] at this
        have hne : ts.filter (isO r) ≠ [] := List.ne_nil_of_mem (List.mem_filter.mpr ⟨ha, h1⟩)
        rwa [List.getLast?_cons_of_ne_nil hne] at this
    | false =>
      have hk' : ¬ isO r k = true := by rw [hk]; simp
      rw [dueR, invR, if_neg hk', if_neg hk', RV_due ts (n - 1) ?_ hn']
      intro a ha e h1
      have := hl a (.tail _ ha) e h1
      rwa [List.filter_cons, if_neg hk'] at this
end Mine
end
end
-- part Law0
section
open PySem PySem.W PySem.Calls PyProof.Rows
namespace Mine
/-- what the law's call must leave behind -/
noncomputable def LawEnd (s₁ : Shared) (tabs : List (Addr × Addr)) (r : Result) (s' : Shared) : Prop :=
  r = .ok (.ret (.bool true)) ∧ (∀ b o, (ghostOf s₁.heap tabs).get? b = some o → s'.heap.get? b = some o) ∧ s'.os = s₁.os ∧ AllBare s'.gens ∧ GrownAll tabs s'.heap
theorem post_g {M : Model} {A : Around} {cd : Code} {s s₁ : Shared} {cw : ClaimW} {cl : Str → Option Addr} {mean : ExcName → Option Value} {args : List WData} {tabs : List (Addr × Addr)} (hT : TabsAt tabs s₁.heap) (hr : ∀ x, cw.raises args x = false) (hp : cw.post args (.bool true) args = true)
    (h : codeAny M A cd (LawEnd s₁ tabs) s) : codeAny M A cd (GoodWG cw cl mean args s₁) s :=
  codeAny_mono h fun r s' ⟨e, keep, hos, hg, hgr⟩ => by
    cases e
    have two : ∀ b o, s₁.heap.get? b = some o → s'.heap.get? b = some o ∨ ∃ q ∈ tabs, q.2 = b := fun b o x =>
      (Classical.em (b ∈ tabs.map (·.2))).elim (fun y => .inr (List.mem_map.mp y)) fun y => .inl (keep b o (ghost_ne x y))
    refine ⟨.inl ⟨.bool true, .bool true, [], rfl, hr, .bool _, hp, fun _ => ⟨.nil, fun _ x => absurd x List.not_mem_nil⟩⟩, ⟨fun b o x => ?_, fun b o x => ?_⟩, hos, hg⟩ <;>
      rcases two b o x with k | ⟨q, hq, rfl⟩
    · exact .inl k
    · obtain ⟨ps, y⟩ := hgr.get q hq
      have z := (hT q hq).2
      cases x.symm.trans z
      exact .inr (.inl ⟨((hT q hq).1.tab z).isCodeTable, rfl, #[], ps, rfl, (Array.empty_append (xs := ps)).symm ▸ y⟩)
    · exact ⟨o, k⟩
    · obtain ⟨ps, y⟩ := hgr.get q hq
      exact ⟨_, y⟩
end Mine
end
-- part UseT
section
open PySem PySem.W PySem.Calls PyProof.Rows
namespace Mine
theorem aheadL_len (c : Int) : (aheadL c).length ≤ 9 := by
  unfold aheadL
  repeat' split
  all_goals decide
theorem textL_len (r : List Nat) (cs : List Int) : ∀ ds : List Int, (textL r cs ds).length ≤ 10 * ds.length
  | [] => by simp [textL]
  | k :: ds => by
    have ih := textL_len r cs ds
    have h1 := aheadL_len (cs.getD k.toNat 0)
    unfold textL at ih ⊢
    rw [List.flatMap_cons, List.length_append, List.length_append]; simp only [List.length_cons, List.length_nil]
    omega
section
variable {w : World} {A : Around} {s : Shared} {p : Program} {loose : List Str} {mean : ExcName → Option Value} {mg mb : Str → Option Value} {g : Heap} {L : Nat} {E : Value → Shared → Prop} {Q : Value → Shared → Prop} {m : Str → Option Value} {news : List (Addr × Obj)}
theorem use_text {d C : Addr} {vd vs : List Value} {ds ns : List Int} {r : List Nat} {tr : Tok} (F : Fr g L s.heap m) (N : News g L s.heap news) (hD : s.heap.IsList d vd.toArray) (hdi : IntsAre vd ds) (hC : s.heap.IsList C vs.toArray) (hi : IntsAre vs ns) (h11 : ns.length = 11) (hr : r.length ≤ 9)
    (hds : ∀ k ∈ ds, 0 ≤ k ∧ k < r.length) (hdl : ds.length ≤ 20)
    (X : (hd.heap_39 w.params).In g) (T : Top p loose mean mg mb g) (hroom : A.depth + 5 < recursionLimit) (hh : A.handled = none)
    (h : ∀ h' tk t', Fr g L h' m → News g L h' news → Q (.str (mkS (textL r ns ds)) t') { s with heap := h', toks := tk }) :
    wpAny (model PySem.Challenge.rw_rs0108_01.row.prog w) A (call (.ref 157) [.ref d, .str (mkS r) tr, .ref C]) Q E s := by
  refine use_fr F N (text_spec hD hdi hC hi h11 hr hds hdl (X.keeps F.keep) (T.keeps F.keep) hroom hh) ?_
  rintro v h' tk F' N' ⟨t', rfl⟩
  exact h h' tk t' F' N'
theorem use_chk {x : Str} {t : Tok} (F : Fr g L s.heap m) (N : News g L s.heap news) (hx : x.length ≤ 1000)
    (X : (hd.heap_39 w.params).In g) (T : Top p loose mean mg mb g) (hroom : A.depth + 10 < recursionLimit) (hh : A.handled = none)
    (h : ∀ h' tk gs, Fr g L h' m → News g L h' news → (AllBare s.gens → AllBare gs) → Q (.bool (chk x)) { s with heap := h', toks := tk, gens := gs }) :
    wpAny (model PySem.Challenge.rw_rs0108_01.row.prog w) A (call (.ref 52) [.str x t]) Q E s := by
  refine use_retG F N (chk_spec hx (X.keeps F.keep) (T.keeps F.keep) hroom hh) ?_
  rintro v h' tk gs F' N' hb rfl
  exact h h' tk gs F' N' hb
end
end Mine
end
section
local macro_rules | `(tactic| omega) => `(tactic| lia)
-- part LawA
section
open PySem PySem.W PySem.Calls PyProof.Rows
namespace Mine
section
variable {fa : Addr} {w : World} {A : Around} {s : Shared} {p : Program} {loose : List Str} {mean : ExcName → Option Value} {mg mb : Str → Option Value} {g : Heap} {L : Nat} {E : Value → Shared → Prop} {Q : Flow → Shared → Prop}
theorem ints_sub {vs : List Value} {ns : List Int} (hI : IntsAre vs ns) : ∀ us : List Value, (∀ u ∈ us, u ∈ vs) → ∃ ms, IntsAre us ms
  | [], _ => ⟨[], .nil⟩
  | u :: r, h => by
    obtain ⟨ms, hm⟩ := ints_sub hI r fun x hx => h x (.tail _ hx)
    obtain ⟨i, hi⟩ := List.getElem?_of_mem (h u (.head _))
    have hl : i < ns.length := by rw [← hI.length]; exact (List.getElem?_eq_some_iff.mp hi).1
    obtain ⟨t, ht⟩ := hI.get i _ (List.getElem?_eq_getElem hl)
    rw [ht] at hi
    cases hi
    exact ⟨_ :: ms, .cons _ _ hm⟩
theorem slice_mem {vs : List Value} {lo hi st : Option Int} : ∀ u ∈ (slicePick vs.toArray lo hi st).toList, u ∈ vs := fun u hu => by
  unfold slicePick at hu
  obtain ⟨i, _, h⟩ := List.mem_filterMap.mp hu
  simpa using Array.mem_of_getElem? h
theorem sum_slice {prog : Program} {D : Addr} {vs : List Value} {ns : List Int} {lo hi st : Option Int} {n : Nat} {m : Str → Option Value} {rest : List (Addr × Obj)} {Q : Value → Shared → Prop} (hh : A.handled = none) (F : Fr g L s.heap m) (N : News g L s.heap ((D, { cls := .type "list", data := .seq (slicePick vs.toArray lo hi st) n }) :: rest)) (hI : IntsAre vs ns)
    (h : ∀ h' tk t' z, Fr g L h' m → News g L h' rest → Q (.int z t') { s with heap := h', toks := tk }) : wpAny (model prog w) A (call (.builtin "sum") [.ref D]) Q E s := by
  obtain ⟨ms, hm⟩ := ints_sub hI _ (slice_mem (vs := vs) (lo := lo) (hi := hi) (st := st))
  have hl : s.heap.IsList D ((slicePick vs.toArray lo hi st).toList).toArray := ⟨_, (N _ (.head _)).1, rfl, n, by simp⟩
  exact sumK hh F N hl hm fun h' tk t' F' N' => h h' tk t' _ F' fun q hq => N' q (.tail _ hq)
theorem powN {prog : Program} {k : Nat} {t u : Tok} {Q : Value → Shared → Prop} (hk : k ≤ 100000) (h : Q (.int ((2 ^ k : Nat) : Int) s.toks) { s with toks := s.toks + 1 }) : wpAny (model prog w) A (binaryOp .Pow (.int 2 t) (.int (k : Int) u)) Q E s :=
  PyProof.Rows.pow_int_small (by omega) (by omega) (by decide) (by rw [Int.toNat_natCast, ← kbt_cast]; exact h)
theorem modP {prog : Program} {c : Int} {k : Nat} {t u : Tok} {Q : Value → Shared → Prop} (h : Q (.int (((c.fmod ((2 ^ k : Nat) : Int)).toNat : Nat) : Int) s.toks) { s with toks := s.toks + 1 }) : wpAny (model prog w) A (binaryOp .Mod (.int c t) (.int ((2 ^ k : Nat) : Int) u)) Q E s := by
  have hp := Nat.two_pow_pos k
  refine PyProof.Rows.mod_int' (by omega) ?_
  rw [Int.toNat_of_nonneg (Int.fmod_nonneg_of_pos _ (by omega))] at h
  exact h
theorem divP {prog : Program} {c : Int} {k : Nat} {t u : Tok} {Q : Value → Shared → Prop} (hk : k ≤ 8000) (h : Q (.int (c.fdiv ((2 ^ k : Nat) : Int)) s.toks) { s with toks := s.toks + 1 }) : wpAny (model prog w) A (binaryOp .FloorDiv (.int c t) (.int ((2 ^ k : Nat) : Int) u)) Q E s := by
  have hp := Nat.two_pow_pos k
  refine PyProof.Rows.floordiv_int (by omega) h (.inl (PyProof.noPylong_of_log2 ?_))
  rw [Int.natAbs_natCast, Nat.log2_two_pow]; omega
theorem add2N {prog : Program} {a b : Nat} {t u : Tok} {Q : Value → Shared → Prop} (h : Q (.int ((a + b : Nat) : Int) s.toks) { s with toks := s.toks + 1 }) : wpAny (model prog w) A (binaryOp .Add (.int (a : Int) t) (.int (b : Int) u)) Q E s := addN h
theorem mul2N {prog : Program} {a : Nat} {t u : Tok} {Q : Value → Shared → Prop} (ha : bitsN a ≤ 2 ^ 20) (h : Q (.int ((2 * a : Nat) : Int) s.toks) { s with toks := s.toks + 1 }) : wpAny (model prog w) A (binaryOp .Mult (.int 2 t) (.int (a : Int) u)) Q E s :=
  mulN (a := 2) h (by decide +kernel) ha
theorem add9N {prog : Program} {a : Nat} {t u : Tok} {Q : Value → Shared → Prop} (h : Q (.int ((a + 9 : Nat) : Int) s.toks) { s with toks := s.toks + 1 }) : wpAny (model prog w) A (binaryOp .Add (.int (a : Int) t) (.int 9 u)) Q E s := add_int h
/-- the state behind the width: the cells are laid -/
noncomputable def AtA (g : Heap) (L : Nat) (W : Nat) (C : Nat) (ys : List Value) (ns : List Int) (h : Heap) : Prop :=
  ∃ m tw nn o3 o4 o5 o6, Fr g L h m ∧ m (Str.ofString "width") = some (.int (W : Int) tw) ∧
    News g L h [(C, listOf ys.toArray nn), (L + 1 + 1 + 1 + 1 + 1 + 1, o6), (L + 1 + 1 + 1 + 1 + 1, o5), (L + 1 + 1 + 1 + 1, o4), (L + 1 + 1 + 1, o3), (75, tabObj #[]), (68, tabObj #[]), (159, tabObj #[])] ∧
    o3.data = .cell (some (.ref C)) ∧ o4.data = .cell none ∧ o5.data = .cell none ∧ o6.data = .cell none ∧ IntsAre ys ns ∧ ns.length = 11 ∧
    L + 1 + 1 + 1 + 1 + 1 + 1 ≠ C ∧ L + 1 + 1 + 1 + 1 + 1 ≠ C ∧ L + 1 + 1 + 1 + 1 ≠ C ∧ L + 1 + 1 + 1 ≠ C ∧ 75 ≠ C ∧ 68 ≠ C ∧ 159 ≠ C
/-- one in a list's middle, put to its front -/
theorem mem_move {α : Type} {x q : α} (l : List α) {tn : List α} (h : q ∈ l ++ x :: tn) : q ∈ x :: (l ++ tn) := List.perm_middle.mem_iff.mp h
theorem mem_mid {α : Type} {q : α} (l r t : List α) (h : q ∈ l ++ t) : q ∈ l ++ (r ++ t) :=
  (List.mem_append.mp h).elim (fun h => List.mem_append_left _ h) fun h => List.mem_append_right _ (List.mem_append_right _ h)
theorem mem_swap {α : Type} {q : α} (l r t : List α) (h : q ∈ l ++ (r ++ t)) : q ∈ r ++ (l ++ t) :=
  (List.mem_append.mp h).elim (fun h => List.mem_append_right _ (List.mem_append_left _ h)) fun h =>
    (List.mem_append.mp h).elim (fun h => List.mem_append_left _ h) fun h => List.mem_append_right _ (List.mem_append_right _ h)
theorem mem_end {α : Type} {q : α} (p m t own : List α) {fl ex : List α} (hf : ∀ q ∈ fl, q ∈ ex) (h : q ∈ p ++ (m ++ (fl ++ t ++ own))) : q ∈ p ++ (ex ++ (m ++ (t ++ own))) :=
  (List.mem_append.mp h).elim (fun h => List.mem_append_left _ h) fun h => List.mem_append_right _ <|
    (List.mem_append.mp h).elim (fun h => List.mem_append_right _ (List.mem_append_left _ h)) fun h =>
      (List.mem_append.mp h).elim (fun h => (List.mem_append.mp h).elim (fun h => List.mem_append_left _ (hf _ h)) fun h => List.mem_append_right _ (List.mem_append_right _ (List.mem_append_left _ h)))
        fun h => List.mem_append_right _ (List.mem_append_right _ (List.mem_append_right _ h))
theorem subA {a b c d e f x y z u v : Addr × Obj} : ∀ q ∈ [a, b, c, d, e, x, y, z], q ∈ [a, u, b, c, d, e, v, f, x, y, z] := fun _ hq =>
  mem_mid [a] [u] [b, c, d, e, v, f, x, y, z] (mem_mid [a, b, c, d, e] [v, f] [x, y, z] hq)
end
section
namespace ksegA
noncomputable abbrev V := (Addr) × (World) × (Around) × (Shared) × (Program) × (List Str) × (ExcName → Option Value) × (Str → Option Value) × (Str → Option Value) × (Heap) × (Nat) × (Value → Shared → Prop) × (Flow → Shared → Prop) × (Obj) × (Obj) × (Obj) × (Obj) × (Obj) × (Obj) × (Addr) × (List Value) × (List Int)
noncomputable def P (v : V) : Prop :=
  (fun (fa : Addr) (w : World) (A : Around) (s : Shared) (p : Program) (loose : List Str) (mean : ExcName → Option Value) (mg : Str → Option Value) (mb : Str → Option Value) (g : Heap) (L : Nat) (E : Value → Shared → Prop) (Q : Flow → Shared → Prop) (o1 : Obj) (o2 : Obj) (o3 : Obj) (o4 : Obj) (o5 : Obj) (o6 : Obj) (S : Addr) (zv : List Value) (zs : List Int) =>
  ∀ (nm qual : Str) (ps : Arguments) (body : List Stmt) (sc : Scope) (dV kV doc pm cdv ct oc : Value) (an od : Option Addr) (osl : Array (Option Value)) (hK : (hd.heap_39 w.params).lookup 162 = some ⟨oc, od, .func (fnOf nm qual ps body sc dV kV doc pm an cdv ct), osl⟩) (X : (hd.heap_39 w.params).In g) (T : Top p loose mean mg mb g) (hh : A.handled = none) (hroom : A.depth + 60 < recursionLimit) (F : Fr g L s.heap (fun _ => none)) (d1 : o1.data = .cell (some (.ref S))) (d2 : o2.data = .cell none) (d3 : o3.data = .cell none) (d4 : o4.data = .cell none) (d5 : o5.data = .cell none) (d6 : o6.data = .cell none) (N : News g L s.heap [(L + 1 + 1 + 1 + 1 + 1 + 1, o6), (L + 1 + 1 + 1 + 1 + 1, o5), (L + 1 + 1 + 1 + 1, o4), (L + 1 + 1 + 1, o3), (L + 1 + 1, o2), (L + 1, o1), (75, tabObj #[]), (68, tabObj #[]), (159, tabObj #[])]) (l0 : 75 < L ∧ 68 < L ∧ 159 < L) (hS : g.IsList S zv.toArray) (hI : IntsAre zv zs) (hz : zs.length ≤ 63) (hnext : ∀ h' tk W C ys ns, 2 ≤ W → W ≤ 4401 → AtA g L W C ys ns h' → wpAny (model PySem.Challenge.rw_rs0108_01.row.prog w) (A.deeper (envOfC nm sc L fa (.ref 161))) (execs (body.drop 3) (envOfC nm sc L fa (.ref 161))) Q E { s with heap := h', toks := tk }), wpAny (model PySem.Challenge.rw_rs0108_01.row.prog w) (A.deeper (envOfC nm sc L fa (.ref 161))) (execs body (envOfC nm sc L fa (.ref 161))) Q E s)
    v.1 v.2.1 v.2.2.1 v.2.2.2.1 v.2.2.2.2.1 v.2.2.2.2.2.1 v.2.2.2.2.2.2.1 v.2.2.2.2.2.2.2.1 v.2.2.2.2.2.2.2.2.1 v.2.2.2.2.2.2.2.2.2.1 v.2.2.2.2.2.2.2.2.2.2.1 v.2.2.2.2.2.2.2.2.2.2.2.1 v.2.2.2.2.2.2.2.2.2.2.2.2.1 v.2.2.2.2.2.2.2.2.2.2.2.2.2.1 v.2.2.2.2.2.2.2.2.2.2.2.2.2.2.1 v.2.2.2.2.2.2.2.2.2.2.2.2.2.2.2.1 v.2.2.2.2.2.2.2.2.2.2.2.2.2.2.2.2.1 v.2.2.2.2.2.2.2.2.2.2.2.2.2.2.2.2.2.1 v.2.2.2.2.2.2.2.2.2.2.2.2.2.2.2.2.2.2.1 v.2.2.2.2.2.2.2.2.2.2.2.2.2.2.2.2.2.2.2.1 v.2.2.2.2.2.2.2.2.2.2.2.2.2.2.2.2.2.2.2.2.1 v.2.2.2.2.2.2.2.2.2.2.2.2.2.2.2.2.2.2.2.2.2
@[irreducible] noncomputable def v0 : V := @Classical.epsilon V ⟨(0, aW, callerA, {}, PySem.Challenge.rw_rs0108_01.row.prog, [], fun _ => none, fun _ => none, fun _ => none, {}, 0, fun _ _ => True, fun _ _ => True, { cls := .none, data := .cell none }, { cls := .none, data := .cell none }, { cls := .none, data := .cell none }, { cls := .none, data := .cell none }, { cls := .none, data := .cell none }, { cls := .none, data := .cell none }, 0, [], [])⟩ fun v => ¬ P v
noncomputable def fa : Addr := v0.1
noncomputable def w : World := v0.2.1
noncomputable def A : Around := v0.2.2.1
noncomputable def s : Shared := v0.2.2.2.1
noncomputable def p : Program := v0.2.2.2.2.1
noncomputable def loose : List Str := v0.2.2.2.2.2.1
noncomputable def mean : ExcName → Option Value := v0.2.2.2.2.2.2.1
noncomputable def mg : Str → Option Value := v0.2.2.2.2.2.2.2.1
noncomputable def mb : Str → Option Value := v0.2.2.2.2.2.2.2.2.1
noncomputable def g : Heap := v0.2.2.2.2.2.2.2.2.2.1
noncomputable def L : Nat := v0.2.2.2.2.2.2.2.2.2.2.1
noncomputable def E : Value → Shared → Prop := v0.2.2.2.2.2.2.2.2.2.2.2.1
noncomputable def Q : Flow → Shared → Prop := v0.2.2.2.2.2.2.2.2.2.2.2.2.1
noncomputable def o1 : Obj := v0.2.2.2.2.2.2.2.2.2.2.2.2.2.1
noncomputable def o2 : Obj := v0.2.2.2.2.2.2.2.2.2.2.2.2.2.2.1
noncomputable def o3 : Obj := v0.2.2.2.2.2.2.2.2.2.2.2.2.2.2.2.1
noncomputable def o4 : Obj := v0.2.2.2.2.2.2.2.2.2.2.2.2.2.2.2.2.1
noncomputable def o5 : Obj := v0.2.2.2.2.2.2.2.2.2.2.2.2.2.2.2.2.2.1
noncomputable def o6 : Obj := v0.2.2.2.2.2.2.2.2.2.2.2.2.2.2.2.2.2.2.1
noncomputable def S : Addr := v0.2.2.2.2.2.2.2.2.2.2.2.2.2.2.2.2.2.2.2.1
noncomputable def zv : List Value := v0.2.2.2.2.2.2.2.2.2.2.2.2.2.2.2.2.2.2.2.2.1
noncomputable def zs : List Int := v0.2.2.2.2.2.2.2.2.2.2.2.2.2.2.2.2.2.2.2.2.2
set_option maxHeartbeats 8000000 in
theorem main (nm qual : Str) (ps : Arguments) (body : List Stmt) (sc : Scope) (dV kV doc pm cdv ct oc : Value) (an od : Option Addr) (osl : Array (Option Value)) (hK : (hd.heap_39 w.params).lookup 162 = some ⟨oc, od, .func (fnOf nm qual ps body sc dV kV doc pm an cdv ct), osl⟩) (X : (hd.heap_39 w.params).In g) (T : Top p loose mean mg mb g) (hh : A.handled = none) (hroom : A.depth + 60 < recursionLimit) (F : Fr g L s.heap (fun _ => none)) (d1 : o1.data = .cell (some (.ref S))) (d2 : o2.data = .cell none) (d3 : o3.data = .cell none) (d4 : o4.data = .cell none) (d5 : o5.data = .cell none) (d6 : o6.data = .cell none) (N : News g L s.heap [(L + 1 + 1 + 1 + 1 + 1 + 1, o6), (L + 1 + 1 + 1 + 1 + 1, o5), (L + 1 + 1 + 1 + 1, o4), (L + 1 + 1 + 1, o3), (L + 1 + 1, o2), (L + 1, o1), (75, tabObj #[]), (68, tabObj #[]), (159, tabObj #[])]) (l0 : 75 < L ∧ 68 < L ∧ 159 < L) (hS : g.IsList S zv.toArray) (hI : IntsAre zv zs) (hz : zs.length ≤ 63) (hnext : ∀ h' tk W C ys ns, 2 ≤ W → W ≤ 4401 → AtA g L W C ys ns h' → wpAny (model PySem.Challenge.rw_rs0108_01.row.prog w) (A.deeper (envOfC nm sc L fa (.ref 161))) (execs (body.drop 3) (envOfC nm sc L fa (.ref 161))) Q E { s with heap := h', toks := tk }) :
    wpAny (model PySem.Challenge.rw_rs0108_01.row.prog w) (A.deeper (envOfC nm sc L fa (.ref 161))) (execs body (envOfC nm sc L fa (.ref 161))) Q E s := by
  w_top off
  revert hK X
  k_fill
  intro hK X
  refine look_parts hK (by k_is) ?_
  rintro rfl rfl rfl
  clear hK
  refine wp_cut 2 _ ?_
  dsimp only [List.take, List.drop]
  repeat' (first | ((with_reducible show wpAny _ _ (call (.builtin "sum") _ _) _ _ _); refine sum_slice ‹_› ‹_› ‹_› ‹_› ?_; intro _ _ _ _ _ _) | with_reducible (show wpAny _ _ (eval (.ListComp ..) _) _ _ _; refine LCg.ListComp_U ‹_› rfl (by decide) rfl (by decide) rfl ?_ (fun _ => rfl)) | ((with_reducible show wpAny _ _ (binaryOp _ (.int _ _) (.int _ _)) _ _ _); first | with_reducible (refine mul2N ‹_› ?_) | with_reducible (first | refine add9N ?_ | refine add2N ?_) | with_reducible (refine divP (by omega) ?_) | with_reducible (refine modP ?_) | with_reducible (refine powN (by omega) ?_)) | walk1)
  rename Fr _ _ _ _ => F2
  rename News _ _ _ _ => N2
  rename IsRange _ _ _ _ _ _ _ _ => hr2
  rename (∀ (b : Addr) (o : Obj), _ → _) => hk2
  clear hk2
  refine LCg.CompSrc.range (n := 11) hh F2 N2 hr2 (by decide) (by decide) (by decide) fun g2 => ?_
  refine comp_inv 11 (fun i ys news => news = [(_, _), (_, _), (_, _), (_, _), (_, _), (_, _), (_, _), (_, _), (_, _), (_, _)] ∧ ∃ ns : List Int, ns.length = i ∧ IntsAre ys ns) ?_ ?_ _ 0 [] _ (by simp) ⟨rfl, [], rfl, .nil⟩
  · rintro i v I oI C oC D m₂ h3 tk3 ys news3 hi3 ⟨t3, rfl⟩ hC3 hm F3 N3 off ne ⟨rfl, ns, hns, hys⟩
    rw [Int.zero_add] at hm
    have hi0 : (0 : Int) ≤ i := by omega
    have hi1 : (i : Int) < 11 := by omega
    repeat' (first | ((with_reducible show wpAny _ _ (call (.builtin "sum") _ _) _ _ _); refine sum_slice ‹_› ‹_› ‹_› ‹_› ?_; intro _ _ _ _ _ _) | with_reducible (show wpAny _ _ (eval (.ListComp ..) _) _ _ _; refine LCg.ListComp_U ‹_› rfl (by decide) rfl (by decide) rfl ?_ (fun _ => rfl)) | ((with_reducible show wpAny _ _ (binaryOp _ (.int _ _) (.int _ _)) _ _ _); first | with_reducible (refine mul2N ‹_› ?_) | with_reducible (first | refine add9N ?_ | refine add2N ?_) | with_reducible (refine divP (by omega) ?_) | with_reducible (refine modP ?_) | with_reducible (refine powN (by omega) ?_)) | walk1)
    rename Fr _ _ _ _ => F'
    rename News _ _ _ _ => N'
    show LCg.CompEnd _ _ _ _ _ _ _ _ _ _ _ _ _ _
    exact end_same (more := []) F' N' off trivial ⟨rfl, ns ++ [_], by simp [hns], hys.append (.cons _ _ .nil)⟩
  · rintro ys news3 ⟨rfl, ns, h11, hys⟩ D2 h5 tk5 F5 N5 off5
    simp only [LCg.Off1, and_true] at off5
    dsimp only
    repeat' (first | ((with_reducible show wpAny _ _ (call (.builtin "sum") _ _) _ _ _); refine sum_slice ‹_› ‹_› ‹_› ‹_› ?_; intro _ _ _ _ _ _) | with_reducible (show wpAny _ _ (eval (.ListComp ..) _) _ _ _; refine LCg.ListComp_U ‹_› rfl (by decide) rfl (by decide) rfl ?_ (fun _ => rfl)) | ((with_reducible show wpAny _ _ (binaryOp _ (.int _ _) (.int _ _)) _ _ _); first | with_reducible (refine mul2N ‹_› ?_) | with_reducible (first | refine add9N ?_ | refine add2N ?_) | with_reducible (refine divP (by omega) ?_) | with_reducible (refine modP ?_) | with_reducible (refine powN (by omega) ?_)) | walk1)
    refine .mk ?_
    rename Fr _ _ _ _ => F6
    rename News _ _ _ _ => N6
    clear hr2
    refine wp_cut 1 _ ?_
    dsimp only [List.take, List.drop]
    repeat' (first | ((with_reducible show wpAny _ _ (call (.builtin "sum") _ _) _ _ _); refine sum_slice ‹_› ‹_› ‹_› ‹_› ?_; intro _ _ _ _ _ _) | with_reducible (show wpAny _ _ (eval (.ListComp ..) _) _ _ _; refine LCg.ListComp_U ‹_› rfl (by decide) rfl (by decide) rfl ?_ (fun _ => rfl)) | ((with_reducible show wpAny _ _ (binaryOp _ (.int _ _) (.int _ _)) _ _ _); first | with_reducible (refine mul2N ‹_› ?_) | with_reducible (first | refine add9N ?_ | refine add2N ?_) | with_reducible (refine divP (by omega) ?_) | with_reducible (refine modP ?_) | with_reducible (refine powN (by omega) ?_)) | walk1)
    refine sumK hh F6 N6 (hS.at fun o e => F6.keep _ _ e) hI fun h7 tk7 t7 F7 N7 => ?_
    clear F6 N6
    repeat' (first | ((with_reducible show wpAny _ _ (call (.builtin "sum") _ _) _ _ _); refine sum_slice ‹_› ‹_› ‹_› ‹_› ?_; intro _ _ _ _ _ _) | with_reducible (show wpAny _ _ (eval (.ListComp ..) _) _ _ _; refine LCg.ListComp_U ‹_› rfl (by decide) rfl (by decide) rfl ?_ (fun _ => rfl)) | ((with_reducible show wpAny _ _ (binaryOp _ (.int _ _) (.int _ _)) _ _ _); first | with_reducible (refine mul2N ‹_› ?_) | with_reducible (first | refine add9N ?_ | refine add2N ?_) | with_reducible (refine divP (by omega) ?_) | with_reducible (refine modP ?_) | with_reducible (refine powN (by omega) ?_)) | walk1)
    refine .mk ?_
    rename Fr _ _ _ _ => F8
    rename News _ _ _ _ => N8
    have hw0 := Int.fmod_nonneg_of_pos zs.sum (show (0 : Int) < 4400 by decide)
    have hw1 := Int.fmod_lt_of_pos zs.sum (show (0 : Int) < 4400 by decide)
    have hW : 2 + zs.sum.fmod 4400 = (((2 + zs.sum.fmod 4400).toNat : Nat) : Int) := by omega
    rw [hW] at F8
    rename (Obj.data _ = Data.cell (some (Value.ref D2))) => dC
    refine hnext _ _ (2 + zs.sum.fmod 4400).toNat D2 ys ns (by omega) (by omega) ⟨_, _, _, _, _, _, _, F8, rfl, fun q hq => N8 q (subA q hq), dC, d4, d5, d6, hys, h11, off5.2.1, off5.2.2.1, off5.2.2.2.1, off5.2.2.2.2.1, off5.2.2.2.2.2.2.2.1, off5.2.2.2.2.2.2.2.2.1, off5.2.2.2.2.2.2.2.2.2⟩
theorem all (v : V) : P v := byEps (v0 := v0) (by unfold v0; rfl) main v
end ksegA
theorem segA {fa : Addr} {w : World} {A : Around} {s : Shared} {p : Program} {loose : List Str} {mean : ExcName → Option Value} {mg : Str → Option Value} {mb : Str → Option Value} {g : Heap} {L : Nat} {E : Value → Shared → Prop} {Q : Flow → Shared → Prop} {nm qual : Str} {ps : Arguments} {body : List Stmt} {sc : Scope} {dV kV doc pm cdv ct oc : Value} {an od : Option Addr} {osl : Array (Option Value)} {o1 o2 o3 o4 o5 o6 : Obj} {S : Addr} {zv : List Value} {zs : List Int} (hK : (hd.heap_39 w.params).lookup 162 = some ⟨oc, od, .func (fnOf nm qual ps body sc dV kV doc pm an cdv ct), osl⟩) (X : (hd.heap_39 w.params).In g) (T : Top p loose mean mg mb g) (hh : A.handled = none) (hroom : A.depth + 60 < recursionLimit) (F : Fr g L s.heap (fun _ => none)) (d1 : o1.data = .cell (some (.ref S))) (d2 : o2.data = .cell none) (d3 : o3.data = .cell none) (d4 : o4.data = .cell none) (d5 : o5.data = .cell none) (d6 : o6.data = .cell none) (N : News g L s.heap [(L + 1 + 1 + 1 + 1 + 1 + 1, o6), (L + 1 + 1 + 1 + 1 + 1, o5), (L + 1 + 1 + 1 + 1, o4), (L + 1 + 1 + 1, o3), (L + 1 + 1, o2), (L + 1, o1), (75, tabObj #[]), (68, tabObj #[]), (159, tabObj #[])]) (l0 : 75 < L ∧ 68 < L ∧ 159 < L) (hS : g.IsList S zv.toArray) (hI : IntsAre zv zs) (hz : zs.length ≤ 63) (hnext : ∀ h' tk W C ys ns, 2 ≤ W → W ≤ 4401 → AtA g L W C ys ns h' → wpAny (model PySem.Challenge.rw_rs0108_01.row.prog w) (A.deeper (envOfC nm sc L fa (.ref 161))) (execs (body.drop 3) (envOfC nm sc L fa (.ref 161))) Q E { s with heap := h', toks := tk }) :
    wpAny (model PySem.Challenge.rw_rs0108_01.row.prog w) (A.deeper (envOfC nm sc L fa (.ref 161))) (execs body (envOfC nm sc L fa (.ref 161))) Q E s := ksegA.all (fa, w, A, s, p, loose, mean, mg, mb, g, L, E, Q, o1, o2, o3, o4, o5, o6, S, zv, zs) nm qual ps body sc dV kV doc pm cdv ct oc an od osl hK X T hh hroom F d1 d2 d3 d4 d5 d6 N l0 hS hI hz hnext
end
end Mine
end
-- part LawB
section
open PySem PySem.W PySem.Calls PyProof.Rows
namespace Mine
section
variable {fa : Addr} {w : World} {A : Around} {s : Shared} {p : Program} {loose : List Str} {mean : ExcName → Option Value} {mg mb : Str → Option Value} {g : Heap} {L : Nat} {E : Value → Shared → Prop} {Q : Flow → Shared → Prop}
/-- the state behind the size -/
noncomputable def AtB (g : Heap) (L : Nat) (f e rd : Nat) (C : Nat) (ys : List Value) (ns : List Int) (h : Heap) : Prop :=
  ∃ m tf te tr nn o3 o4 o5 o6 t4 t5, Fr g L h m ∧ m (Str.ofString "factor") = some (.int (f : Int) tf) ∧ m (Str.ofString "extra") = some (.int (e : Int) te) ∧ m (Str.ofString "rounds") = some (.int (rd : Int) tr) ∧
    News g L h [(C, listOf ys.toArray nn), (L + 1 + 1 + 1 + 1 + 1 + 1, o6), (L + 1 + 1 + 1 + 1 + 1, o5), (L + 1 + 1 + 1 + 1, o4), (L + 1 + 1 + 1, o3), (75, tabObj #[]), (68, tabObj #[]), (159, tabObj #[])] ∧
    o3.data = .cell (some (.ref C)) ∧ o4.data = .cell (some (.str (mkS (ringL ns)) t4)) ∧ o5.data = .cell (some (.int ((ringL ns).length : Int) t5)) ∧ o6.data = .cell none ∧ IntsAre ys ns ∧ ns.length = 11 ∧
    L + 1 + 1 + 1 + 1 + 1 + 1 ≠ C ∧ L + 1 + 1 + 1 + 1 + 1 ≠ C ∧ L + 1 + 1 + 1 + 1 ≠ C ∧ L + 1 + 1 + 1 ≠ C ∧ 75 ≠ C ∧ 68 ≠ C ∧ 159 ≠ C
theorem use_ring {C : Addr} {vs : List Value} {ns : List Int} {m : Str → Option Value} {news : List (Addr × Obj)} {Q : Value → Shared → Prop} (F : Fr g L s.heap m) (N : News g L s.heap news) (hC : s.heap.IsList C vs.toArray) (hi : IntsAre vs ns) (h11 : ns.length = 11)
    (X : (hd.heap_39 w.params).In g) (T : Top p loose mean mg mb g) (hroom : A.depth + 5 < recursionLimit) (hh : A.handled = none)
    (h : ∀ h' tk t', Fr g L h' m → News g L h' news → Q (.str (mkS (ringL ns)) t') { s with heap := h', toks := tk }) :
    wpAny (model PySem.Challenge.rw_rs0108_01.row.prog w) A (call (.ref 130) [.ref C]) Q E s := by
  refine use_fr F N (ring_spec hC hi h11 (X.keeps F.keep) (T.keeps F.keep) hroom hh) ?_
  rintro v h' tk F' N' ⟨t', rfl⟩
  exact h h' tk t' F' N'
theorem ringL_len {ns : List Int} (h11 : ns.length = 11) : (ringL ns).length = 2 * halfOf ns + 1 ∧ (halfOf ns = 3 ∨ halfOf ns = 4) := by
  have h0 := Int.fmod_nonneg_of_pos (ns.getD 9 0) (show (0 : Int) < 2 by decide)
  have h1 := Int.fmod_lt_of_pos (ns.getD 9 0) (show (0 : Int) < 2 by decide)
  have hh : halfOf ns = 3 ∨ halfOf ns = 4 := by unfold halfOf; omega
  refine ⟨?_, hh⟩
  unfold ringL
  rw [ring_len, List.length_take, h11]
  simp; omega
end
section
namespace ksegB
noncomputable abbrev V := (Addr) × (World) × (Around) × (Shared) × (Program) × (List Str) × (ExcName → Option Value) × (Str → Option Value) × (Str → Option Value) × (Heap) × (Nat) × (Value → Shared → Prop) × (Flow → Shared → Prop) × (Nat) × (Nat) × (List Value) × (List Int)
noncomputable def P (v : V) : Prop :=
  (fun (fa : Addr) (w : World) (A : Around) (s : Shared) (p : Program) (loose : List Str) (mean : ExcName → Option Value) (mg : Str → Option Value) (mb : Str → Option Value) (g : Heap) (L : Nat) (E : Value → Shared → Prop) (Q : Flow → Shared → Prop) (W : Nat) (C : Nat) (ys : List Value) (ns : List Int) =>
  ∀ (nm qual : Str) (ps : Arguments) (body : List Stmt) (sc : Scope) (dV kV doc pm cdv ct oc : Value) (an od : Option Addr) (osl : Array (Option Value)) (hK : (hd.heap_39 w.params).lookup 162 = some ⟨oc, od, .func (fnOf nm qual ps body sc dV kV doc pm an cdv ct), osl⟩) (X : (hd.heap_39 w.params).In g) (T : Top p loose mean mg mb g) (hh : A.handled = none) (hroom : A.depth + 60 < recursionLimit) (hW2 : 2 ≤ W) (hW : W ≤ 4401) (hA : AtA g L W C ys ns s.heap) (hL : 159 < L) (hnext : ∀ h' tk f e rd, 2 ^ W ≤ f → f < 2 ^ (W + 1) → e < 2 ^ W → rd < 2 ^ (2 * W + 9) → AtB g L f e rd C ys ns h' → wpAny (model PySem.Challenge.rw_rs0108_01.row.prog w) (A.deeper (envOfC nm sc L fa (.ref 161))) (execs (body.drop 8) (envOfC nm sc L fa (.ref 161))) Q E { s with heap := h', toks := tk }), wpAny (model PySem.Challenge.rw_rs0108_01.row.prog w) (A.deeper (envOfC nm sc L fa (.ref 161))) (execs (body.drop 3) (envOfC nm sc L fa (.ref 161))) Q E s)
    v.1 v.2.1 v.2.2.1 v.2.2.2.1 v.2.2.2.2.1 v.2.2.2.2.2.1 v.2.2.2.2.2.2.1 v.2.2.2.2.2.2.2.1 v.2.2.2.2.2.2.2.2.1 v.2.2.2.2.2.2.2.2.2.1 v.2.2.2.2.2.2.2.2.2.2.1 v.2.2.2.2.2.2.2.2.2.2.2.1 v.2.2.2.2.2.2.2.2.2.2.2.2.1 v.2.2.2.2.2.2.2.2.2.2.2.2.2.1 v.2.2.2.2.2.2.2.2.2.2.2.2.2.2.1 v.2.2.2.2.2.2.2.2.2.2.2.2.2.2.2.1 v.2.2.2.2.2.2.2.2.2.2.2.2.2.2.2.2
@[irreducible] noncomputable def v0 : V := @Classical.epsilon V ⟨(0, aW, callerA, {}, PySem.Challenge.rw_rs0108_01.row.prog, [], fun _ => none, fun _ => none, fun _ => none, {}, 0, fun _ _ => True, fun _ _ => True, 0, 0, [], [])⟩ fun v => ¬ P v
noncomputable def fa : Addr := v0.1
noncomputable def w : World := v0.2.1
noncomputable def A : Around := v0.2.2.1
noncomputable def s : Shared := v0.2.2.2.1
noncomputable def p : Program := v0.2.2.2.2.1
noncomputable def loose : List Str := v0.2.2.2.2.2.1
noncomputable def mean : ExcName → Option Value := v0.2.2.2.2.2.2.1
noncomputable def mg : Str → Option Value := v0.2.2.2.2.2.2.2.1
noncomputable def mb : Str → Option Value := v0.2.2.2.2.2.2.2.2.1
noncomputable def g : Heap := v0.2.2.2.2.2.2.2.2.2.1
noncomputable def L : Nat := v0.2.2.2.2.2.2.2.2.2.2.1
noncomputable def E : Value → Shared → Prop := v0.2.2.2.2.2.2.2.2.2.2.2.1
noncomputable def Q : Flow → Shared → Prop := v0.2.2.2.2.2.2.2.2.2.2.2.2.1
noncomputable def W : Nat := v0.2.2.2.2.2.2.2.2.2.2.2.2.2.1
noncomputable def C : Nat := v0.2.2.2.2.2.2.2.2.2.2.2.2.2.2.1
noncomputable def ys : List Value := v0.2.2.2.2.2.2.2.2.2.2.2.2.2.2.2.1
noncomputable def ns : List Int := v0.2.2.2.2.2.2.2.2.2.2.2.2.2.2.2.2
set_option maxHeartbeats 8000000 in
theorem main (nm qual : Str) (ps : Arguments) (body : List Stmt) (sc : Scope) (dV kV doc pm cdv ct oc : Value) (an od : Option Addr) (osl : Array (Option Value)) (hK : (hd.heap_39 w.params).lookup 162 = some ⟨oc, od, .func (fnOf nm qual ps body sc dV kV doc pm an cdv ct), osl⟩) (X : (hd.heap_39 w.params).In g) (T : Top p loose mean mg mb g) (hh : A.handled = none) (hroom : A.depth + 60 < recursionLimit) (hW2 : 2 ≤ W) (hW : W ≤ 4401) (hA : AtA g L W C ys ns s.heap) (hL : 159 < L) (hnext : ∀ h' tk f e rd, 2 ^ W ≤ f → f < 2 ^ (W + 1) → e < 2 ^ W → rd < 2 ^ (2 * W + 9) → AtB g L f e rd C ys ns h' → wpAny (model PySem.Challenge.rw_rs0108_01.row.prog w) (A.deeper (envOfC nm sc L fa (.ref 161))) (execs (body.drop 8) (envOfC nm sc L fa (.ref 161))) Q E { s with heap := h', toks := tk }) :
    wpAny (model PySem.Challenge.rw_rs0108_01.row.prog w) (A.deeper (envOfC nm sc L fa (.ref 161))) (execs (body.drop 3) (envOfC nm sc L fa (.ref 161))) Q E s := by
  w_top off
  revert hK X
  k_fill
  intro hK X
  refine look_parts hK (by k_is) ?_
  rintro rfl rfl rfl
  clear hK
  obtain ⟨m, tw, nn, o3, o4, o5, o6, F, mW, N, d3, d4, d5, d6, hys, h11, n1, n2, n3, n4, n5, n6, n7⟩ := hA
  have F1 := fr_known (k := Str.ofString "width") F mW
  clear F
  have hbW : bitsN W ≤ 2 ^ 20 := Nat.le_trans (bitsN_le.mpr (Nat.lt_two_pow_self (n := W))) (by omega)
  dsimp only [List.drop] at hnext ⊢
  obtain ⟨hrl, hh34⟩ := ringL_len h11
  have hms : (mkS (ringL ns)).length = (ringL ns).length := by show (ringL ns).toArray.size = _; rw [List.size_toArray]
  have hmb : (mkS (ringL ns)).length ≤ 9 := by rw [hms]; omega
  refine wp_cut 5 _ ?_
  dsimp only [List.take, List.drop]
  repeat' (first | ((with_reducible show wpAny _ _ (call (.ref _) _ _) _ _ _); refine use_ring ‹_› ‹_› (News.isList ‹_› (.head _)) ‹_› ‹_› ‹_› ‹_› (by show _ + 1 + 5 < recursionLimit; omega) ‹_› ?_; intro _ _ _ _ _) | ((with_reducible show wpAny _ _ (binaryOp _ (.int _ _) (.int _ _)) _ _ _); first | with_reducible (refine mul2N ‹_› ?_) | with_reducible (first | refine add9N ?_ | refine add2N ?_) | with_reducible (refine divP (by omega) ?_) | with_reducible (refine modP ?_) | with_reducible (refine powN (by omega) ?_)) | walk1)
  refine .mk ?_
  rename Fr _ _ _ _ => F8
  rename News _ _ _ _ => N8
  rename (Obj.data _ = Data.cell (some (Value.str _ _))) => d4'
  rename (Obj.data _ = Data.cell (some (Value.int _ _))) => d5'
  rw [hms] at d5'
  have q1 := Int.fmod_lt_of_pos (ns.getD (Int.toNat 10) 0) (show (0 : Int) < ((2 ^ W : Nat) : Int) by have := Nat.two_pow_pos W; omega)
  have q2 := Int.fmod_lt_of_pos ((ns.getD (Int.toNat 10) 0).fdiv ((2 ^ W : Nat) : Int)) (show (0 : Int) < ((2 ^ W : Nat) : Int) by have := Nat.two_pow_pos W; omega)
  have q3 := Int.fmod_lt_of_pos ((ns.getD (Int.toNat 9) 0).fdiv 2) (show (0 : Int) < ((2 ^ (2 * W + 9) : Nat) : Int) by have := Nat.two_pow_pos (2 * W + 9); omega)
  have q4 := Nat.two_pow_pos W
  have q5 := Nat.two_pow_pos (2 * W + 9)
  have q6 : 2 ^ (W + 1) = 2 ^ W * 2 := Nat.pow_succ ..
  exact hnext _ _ _ _ _ (Nat.le_add_right _ _) (by omega) (by omega) (by omega) ⟨_, _, _, _, _, _, _, _, _, _, _, F8, rfl, rfl, rfl, N8, d3, d4', d5', d6, hys, h11, n1, n2, n3, n4, n5, n6, n7⟩
theorem all (v : V) : P v := byEps (v0 := v0) (by unfold v0; rfl) main v
end ksegB
theorem segB {fa : Addr} {w : World} {A : Around} {s : Shared} {p : Program} {loose : List Str} {mean : ExcName → Option Value} {mg : Str → Option Value} {mb : Str → Option Value} {g : Heap} {L : Nat} {E : Value → Shared → Prop} {Q : Flow → Shared → Prop} {nm qual : Str} {ps : Arguments} {body : List Stmt} {sc : Scope} {dV kV doc pm cdv ct oc : Value} {an od : Option Addr} {osl : Array (Option Value)} {W C : Nat} {ys : List Value} {ns : List Int} (hK : (hd.heap_39 w.params).lookup 162 = some ⟨oc, od, .func (fnOf nm qual ps body sc dV kV doc pm an cdv ct), osl⟩) (X : (hd.heap_39 w.params).In g) (T : Top p loose mean mg mb g) (hh : A.handled = none) (hroom : A.depth + 60 < recursionLimit) (hW2 : 2 ≤ W) (hW : W ≤ 4401) (hA : AtA g L W C ys ns s.heap) (hL : 159 < L) (hnext : ∀ h' tk f e rd, 2 ^ W ≤ f → f < 2 ^ (W + 1) → e < 2 ^ W → rd < 2 ^ (2 * W + 9) → AtB g L f e rd C ys ns h' → wpAny (model PySem.Challenge.rw_rs0108_01.row.prog w) (A.deeper (envOfC nm sc L fa (.ref 161))) (execs (body.drop 8) (envOfC nm sc L fa (.ref 161))) Q E { s with heap := h', toks := tk }) :
    wpAny (model PySem.Challenge.rw_rs0108_01.row.prog w) (A.deeper (envOfC nm sc L fa (.ref 161))) (execs (body.drop 3) (envOfC nm sc L fa (.ref 161))) Q E s := ksegB.all (fa, w, A, s, p, loose, mean, mg, mb, g, L, E, Q, W, C, ys, ns) nm qual ps body sc dV kV doc pm cdv ct oc an od osl hK X T hh hroom hW2 hW hA hL hnext
end
end Mine
end
-- part CompC
section
open PySem PySem.W PySem.Calls PyProof.Rows
namespace Mine
section
variable {prog : Program} {w : World} {A : Around} {E : Value → Shared → Prop} {s : Shared} {h₀ : Heap} {L : Addr} {m : Str → Option Value} {env : Env}
/-- the scope of a comprehension whose one cell is the loop's name -/
theorem newEnv_cell {scope : Scope} {globals : Addr} {cl : List (Str × Addr)} {qual x : Str} {Q : Env → Shared → Prop} (hc : ∀ n, cellsFrom n scope.names cl = (x, n) :: cl) (hp : ∀ h, pushCells h scope.names = h.push { cls := .type "cell", data := .cell none })
    (hQ : Q { scope := scope, locals := s.heap.objs.size, globals := globals, cells := (x, s.heap.objs.size + 1) :: cl, qual := qual, func := none, code := env.code, frame := env.frame, builtins := env.builtins }
      { s with heap := (s.heap.push { cls := .type "dict", data := .dict #[] }).push { cls := .type "cell", data := .cell none } }) :
    wpAny (model prog w) A (newFunctionEnv scope globals cl [] qual none .none (some env)) Q E s := by
  simp only [newFunctionEnv, Option.isSome_some, if_true]
  refine wpAny_bind (wpAny_alloc ?_)
  refine wpAny_bind (wpAny_layCells _ (fun name kind cells => by cases hkc : kind == NameKind.cell <;> simp [hkc]) _ _ _ _ ?_)
  rw [hc, hp, show ({ s with heap := s.heap.push { cls := .type "dict", data := .dict #[] } } : Shared).heap.objs.size = s.heap.objs.size + 1 from Heap.size_push ..]
  exact wpAny_bind (by rw [List.forIn_nil]; exact wpAny_pure (wpAny_pure hQ))
noncomputable def Off4 (I C cc D : Addr) (news : List (Addr × Obj)) : Prop := ∀ p ∈ news, p.1 ≠ I ∧ p.1 ≠ C ∧ p.1 ≠ cc ∧ p.1 ≠ D
/-- a turn's end -/
noncomputable def TurnC (h₀ : Heap) (L : Addr) (m : Str → Option Value) (s₁ : Shared) (I : Addr) (oI : Obj) (C : Addr) (oC : Obj) (cc : Addr) (oc : Obj) (D : Addr) (ys : List Value) (Y : List Value → List (Addr × Obj) → Prop) (y : Value) (s₂ : Shared) : Prop :=
  ∃ h' tk news', s₂ = { s₁ with heap := h', toks := tk } ∧ Fr h₀ L h' m ∧ News h₀ L h' ((I, oI) :: (C, oC) :: (cc, oc) :: (D, LCg.lst ys) :: news') ∧ Off4 I C cc D news' ∧ Y (ys ++ [y]) news'
/-- the range, the turns and the end of such a comprehension -/
noncomputable def SrcC (prog : Program) (w : World) (A : Around) (h₀ : Heap) (L : Addr) (m : Str → Option Value) (env : Env) (elt : Expr) (x : Str) (scope : Scope) (cl : List (Str × Addr)) (n : Nat) (y : Str) (Y : Nat → List Value → List (Addr × Obj) → Prop) (Q : Flow → Shared → Prop) (xv : Value) (s₁ : Shared) : Prop :=
  ∃ r t u v news, xv = .ref r ∧ Fr h₀ L s₁.heap m ∧ News h₀ L s₁.heap news ∧ IsRange s₁.heap r 0 n 1 t u v ∧ Builtin.Range.small 0 n 1 = true ∧ Builtin.Range.rangeSize 0 n 1 = ((n : Nat) : Int) ∧ n ≤ sizeLine ∧ Y 0 [] news ∧
      (∀ i t v I oI C oC cc oc D h tk ys news, i < n → v = .int (i : Int) t → oc.data = .cell (some v) → Fr h₀ L h m → News h₀ L h ((I, oI) :: (C, oC) :: (cc, oc) :: (D, LCg.lst ys) :: news) → Off4 I C cc D news → (I ≠ C ∧ I ≠ cc ∧ I ≠ D ∧ C ≠ cc ∧ C ≠ D ∧ cc ≠ D) → Y i ys news →
        wpAny (model prog w) A (eval elt (compEnvC scope ((x, cc) :: cl) C env)) (TurnC h₀ L m { s₁ with heap := h, toks := tk } I oI C oC cc oc D ys (Y (i + 1))) (fun _ _ => False) { s₁ with heap := h, toks := tk }) ∧
      (∀ D h tk ys news, Fr h₀ L h (fun z => if z = y then some (.ref D) else m z) → News h₀ L h ((D, LCg.lst ys) :: news) → (∀ p ∈ news, p.1 ≠ D) → Y n ys news → Q .next { s₁ with heap := h, toks := tk })
end
section
namespace kacc0
noncomputable abbrev V := (Program) × (World) × (Around) × (Value → Shared → Prop) × (Shared) × (Heap) × (Str → Option Value) × (Env) × (Expr) × (Expr) × (Str) × (Str) × (Pos) × (Pos) × (Scope) × (List (Str × Addr)) × (Pos) × (Pos) × (Flow → Shared → Prop) × (Nat → List Value → List (Addr × Obj) → Prop)
noncomputable def P (v : V) : Prop :=
  (fun (prog : Program) (w : World) (A : Around) (E : Value → Shared → Prop) (s : Shared) (h₀ : Heap) (m : Str → Option Value) (env : Env) (elt : Expr) (iter : Expr) (x : Str) (y : Str) (px : Pos) (py : Pos) (scope : Scope) (cl : List (Str × Addr)) (pos : Pos) (spos : Pos) (Q : Flow → Shared → Prop) (Y : Nat → List Value → List (Addr × Obj) → Prop) =>
  ∀ (n : Nat) (hsw : swapsWith (.ListComp elt [⟨.Name x px, iter, [], 0⟩] scope pos) (some (.Name y py)) spos.line env = pure true) (hclos : closureFor scope env = pure cl) (hc : ∀ n, cellsFrom n scope.names cl = (x, n) :: cl) (hpc : ∀ h, pushCells h scope.names = h.push { cls := .type "cell", data := .cell none }) (hkind : scope.kind = .function) (hnames : ∀ z ∈ scope.names, z.2 = .local → scope.names.lookup z.1 = some .local) (hx : (relabel scope env).names.lookup x = some .cell) (hy : env.kindOf y = some .local) (hp : (env.scope.kind == .class || (env.scope.kind == .module && env.locals != env.globals)) = false) (hh : A.handled = none) (h : wpAny (model prog w) A (eval iter env) (SrcC prog w A h₀ env.locals m env elt x scope cl n y Y Q) E s) (hs : ∀ x, foldedSetIterable iter env x = pure x), wpAny (model prog w) A (exec (.Assign [.Name y py] (.ListComp elt [⟨.Name x px, iter, [], 0⟩] scope pos) spos) env) Q E s)
    v.1 v.2.1 v.2.2.1 v.2.2.2.1 v.2.2.2.2.1 v.2.2.2.2.2.1 v.2.2.2.2.2.2.1 v.2.2.2.2.2.2.2.1 v.2.2.2.2.2.2.2.2.1 v.2.2.2.2.2.2.2.2.2.1 v.2.2.2.2.2.2.2.2.2.2.1 v.2.2.2.2.2.2.2.2.2.2.2.1 v.2.2.2.2.2.2.2.2.2.2.2.2.1 v.2.2.2.2.2.2.2.2.2.2.2.2.2.1 v.2.2.2.2.2.2.2.2.2.2.2.2.2.2.1 v.2.2.2.2.2.2.2.2.2.2.2.2.2.2.2.1 v.2.2.2.2.2.2.2.2.2.2.2.2.2.2.2.2.1 v.2.2.2.2.2.2.2.2.2.2.2.2.2.2.2.2.2.1 v.2.2.2.2.2.2.2.2.2.2.2.2.2.2.2.2.2.2.1 v.2.2.2.2.2.2.2.2.2.2.2.2.2.2.2.2.2.2.2
@[irreducible] noncomputable def v0 : V := @Classical.epsilon V ⟨(PySem.Challenge.rw_rs0108_01.row.prog, aW, callerA, fun _ _ => True, {}, {}, fun _ => none, default, default, default, ⟨#[]⟩, ⟨#[]⟩, default, default, default, [], default, default, fun _ _ => True, fun _ _ _ => True)⟩ fun v => ¬ P v
noncomputable def prog : Program := v0.1
noncomputable def w : World := v0.2.1
noncomputable def A : Around := v0.2.2.1
noncomputable def E : Value → Shared → Prop := v0.2.2.2.1
noncomputable def s : Shared := v0.2.2.2.2.1
noncomputable def h₀ : Heap := v0.2.2.2.2.2.1
noncomputable def m : Str → Option Value := v0.2.2.2.2.2.2.1
noncomputable def env : Env := v0.2.2.2.2.2.2.2.1
noncomputable def elt : Expr := v0.2.2.2.2.2.2.2.2.1
noncomputable def iter : Expr := v0.2.2.2.2.2.2.2.2.2.1
noncomputable def x : Str := v0.2.2.2.2.2.2.2.2.2.2.1
noncomputable def y : Str := v0.2.2.2.2.2.2.2.2.2.2.2.1
noncomputable def px : Pos := v0.2.2.2.2.2.2.2.2.2.2.2.2.1
noncomputable def py : Pos := v0.2.2.2.2.2.2.2.2.2.2.2.2.2.1
noncomputable def scope : Scope := v0.2.2.2.2.2.2.2.2.2.2.2.2.2.2.1
noncomputable def cl : List (Str × Addr) := v0.2.2.2.2.2.2.2.2.2.2.2.2.2.2.2.1
noncomputable def pos : Pos := v0.2.2.2.2.2.2.2.2.2.2.2.2.2.2.2.2.1
noncomputable def spos : Pos := v0.2.2.2.2.2.2.2.2.2.2.2.2.2.2.2.2.2.1
noncomputable def Q : Flow → Shared → Prop := v0.2.2.2.2.2.2.2.2.2.2.2.2.2.2.2.2.2.2.1
noncomputable def Y : Nat → List Value → List (Addr × Obj) → Prop := v0.2.2.2.2.2.2.2.2.2.2.2.2.2.2.2.2.2.2.2
set_option maxHeartbeats 8000000 in
theorem main (n : Nat) (hsw : swapsWith (.ListComp elt [⟨.Name x px, iter, [], 0⟩] scope pos) (some (.Name y py)) spos.line env = pure true) (hclos : closureFor scope env = pure cl) (hc : ∀ n, cellsFrom n scope.names cl = (x, n) :: cl) (hpc : ∀ h, pushCells h scope.names = h.push { cls := .type "cell", data := .cell none }) (hkind : scope.kind = .function) (hnames : ∀ z ∈ scope.names, z.2 = .local → scope.names.lookup z.1 = some .local) (hx : (relabel scope env).names.lookup x = some .cell) (hy : env.kindOf y = some .local) (hp : (env.scope.kind == .class || (env.scope.kind == .module && env.locals != env.globals)) = false) (hh : A.handled = none) (h : wpAny (model prog w) A (eval iter env) (SrcC prog w A h₀ env.locals m env elt x scope cl n y Y Q) E s) (hs : ∀ x, foldedSetIterable iter env x = pure x) :
    wpAny (model prog w) A (exec (.Assign [.Name y py] (.ListComp elt [⟨.Name x px, iter, [], 0⟩] scope pos) spos) env) Q E s := by
  rw [exec_Assign_Name_used _ _ _ _ hsw]
  refine wpAny_bind (wpAny_standAt (wpAny_bind ?_))
  show wpAny _ A (do let _ ← comprehension (.ListComp elt [⟨.Name x px, iter, [], 0⟩] scope pos) scope env _ (newList []) false (eval iter env) (some (assign (.Name y py) env))) _ _ s
  refine wpAny_bind (wpAny_mono (wpAny_comprehension_free (use := some (assign (.Name y py) env)) (Q := fun _ s' => Q .next s') rfl hs hclos hkind hnames
    (wpAny_mono h (fun xv s₁ h₁ => ?_) fun _ _ e => e)) (fun _ s' hq => wpAny_pure (wpAny_pure hq)) fun _ _ e => e)
  obtain ⟨r, t, u, v, news, rfl, F, N, hr, hsm, hn, hsz, hY0, turn, fin⟩ := h₁
  refine wpAny_pyIter_range hr hsm ?_
  refine wpAny_newObj_type (newEnv_cell hc hpc ?_)
  generalize hH1 : s₁.heap.push _ = H1
  dsimp only
  generalize hH2 : H1.push { cls := .type "list", dict := none, data := .seq ([] : List Value).toArray } = H2
  generalize hH3 : H2.push { cls := .type "dict", data := .dict #[] } = H3
  generalize hH4 : H3.push { cls := .type "cell", data := .cell none } = H4
  have z1 : H1.objs.size = s₁.heap.objs.size + 1 := by rw [← hH1, Heap.size_push]
  have z2 : H2.objs.size = s₁.heap.objs.size + 2 := by rw [← hH2, Heap.size_push, z1]
  have z3 : H3.objs.size = s₁.heap.objs.size + 3 := by rw [← hH3, Heap.size_push, z2]
  obtain ⟨I, hI⟩ : ∃ I : Nat, I = s₁.heap.objs.size := ⟨_, rfl⟩
  have eD : H1.objs.size = I + 1 := by rw [z1, hI]
  have eC : H2.objs.size = I + 2 := by rw [z2, hI]
  rw [eD, eC, ← hI]
  have u4 : ∀ b o, H3.get? b = some o → H4.get? b = some o := fun b o e => by rw [← hH4]; exact Heap.get?_push_of_some _ e
  have u3 : ∀ b o, H2.get? b = some o → H4.get? b = some o := fun b o e => u4 _ _ (by rw [← hH3]; exact Heap.get?_push_of_some _ e)
  have u2 : ∀ b o, H1.get? b = some o → H4.get? b = some o := fun b o e => u3 _ _ (by rw [← hH2]; exact Heap.get?_push_of_some _ e)
  have old : ∀ b o, s₁.heap.get? b = some o → H4.get? b = some o := fun b o e => u2 _ _ (by rw [← hH1]; exact Heap.get?_push_of_some _ e)
  have gD : H4.get? (I + 1) = some (LCg.lst []) := u3 _ _ (by rw [← eD, ← hH2]; exact Heap.get?_push_size _ rfl)
  have gC : H4.Ns (I + 2) (fun _ => none) := by
    rw [← eC]
    have := (Heap.Ns.new H2 (.type "dict")).keeps (h' := H4) (by rw [hH3]; exact u4)
    exact this
  have gc : H4.get? (I + 2 + 1) = some { cls := .type "cell", data := .cell none } := by
    rw [← hH4, show I + 2 + 1 = H3.objs.size by rw [z3, hI]]; exact Heap.get?_push_size _ rfl
  have st0 : IsRangeIter H4 I (0 + ((0 : Nat) : Int) * 1) ((n : Int) - ((0 : Nat) : Int)) 1 := u2 I _ (by rw [← hH1, hI, hn]; simpa using Heap.get?_push_size _ rfl)
  have fresh₀ : ∀ a, I ≤ a → h₀.get? a = none := fun a ha => Heap.get?_none_of_le (Nat.le_trans F.above (Nat.le_of_lt (Nat.lt_of_lt_of_le (by rw [hI]; exact F.ns.lt) ha)))
  have hLI : env.locals < I := by rw [hI]; exact F.ns.lt
  have offN : Off4 I (I + 2) (I + 2 + 1) (I + 1) news := fun p hp => by
    have := Heap.lt_size (N p hp).1
    have hq := ltN (show p.1 < I by rw [hI]; exact this)
    exact ⟨neN (by omega), neN (by omega), neN (by omega), neN (by omega)⟩
  have F4 : Fr h₀ env.locals H4 m := F.keeps old
  have N4 : News h₀ env.locals H4 ((I + 1, LCg.lst []) :: news) := fun p hp => by
    rcases List.mem_cons.mp hp with rfl | hp
    · exact ⟨gD, neN (by have := ltN hLI; omega), fresh₀ _ (Nat.le_succ _)⟩
    · exact ⟨old _ _ (N p hp).1, (N p hp).2⟩
  have W := LCg.range_walks (prog := prog) (w := w) (I := I) hh 0 n
  clear u2 u3 u4 hH1 hH2 hH3 hH4 z1 z2 z3 eD eC gD old hI
  have loop : ∀ s₃ : Shared, (∃ tk, s₃ = { s₁ with heap := H4, toks := tk }) →
      codeAny (model prog w) A (.compLoop (.ListComp elt [⟨.Name x px, iter, [], 0⟩] scope pos) 0 (.ref I) (.ref (I + 1)) (compEnvC scope ((x, I + 2 + 1) :: cl) (I + 2) env))
        (compPost (model prog w) A E (some (assign (.Name y py) env)) (fun _ s' => Q .next s') (.ref (I + 1)) (I + 2)) s₃ := by
    rintro s₃ ⟨tk0, rfl⟩
    refine codeAny_compLoop_tests
      (fun k s' => ∃ h' tk i ys news' vo, s' = { s₁ with heap := h', toks := tk } ∧ i ≤ n ∧ k = n + 1 - i ∧ ys.length = i ∧ IsRangeIter h' I (0 + (i : Nat) * 1) ((n : Int) - (i : Nat)) 1 ∧ Fr h₀ env.locals h' m ∧ h'.Ns (I + 2) (fun _ => none) ∧ h'.IsCell (I + 2 + 1) vo ∧
        News h₀ env.locals h' ((I + 1, LCg.lst ys) :: news') ∧ Off4 I (I + 2) (I + 2 + 1) (I + 1) news' ∧ Y i ys news') ?_ (n + 1)
      ⟨H4, _, 0, [], news, none, rfl, Nat.zero_le _, rfl, rfl, st0, F4, gC, ⟨_, gc, rfl⟩, N4, offN, hY0⟩
    rintro k s' ⟨h', tk, i, ys, news', vo, rfl, hi, rfl, hyl, st', F', hn', hc', N', off', hY⟩
    by_cases hlt : i < n
    · refine W.item i _ _ _ hlt st' fun v h₂ tk₂ hPv st₂ hk₂ => ?_
      obtain ⟨t', rfl⟩ := hPv
      rw [Int.zero_add]
      have keepI : ∀ b o, b ≠ I → h'.get? b = some o → h₂.get? b = some o := fun b o hb e => hk₂ b o (by simpa using hb) e
      obtain ⟨oc0, hoc0, hdc0⟩ := hc'
      have cc₂ : h₂.IsCell (I + 2 + 1) vo := ⟨oc0, keepI _ _ (neN (by omega)) hoc0, hdc0⟩
      have hI0 : h₀.get? I = none := fresh₀ _ (Nat.le_refl _)
      have hc0 : h₀.get? (I + 2 + 1) = none := fresh₀ _ (by show I ≤ I + 2 + 1; omega)
      have hC0 : h₀.get? (I + 2) = none := fresh₀ _ (by show I ≤ I + 2; omega)
      have hD0 : h₀.get? (I + 1) = none := fresh₀ _ (by show I ≤ I + 1; omega)
      have hLn := ltN hLI
      have lI : (I : Addr) ≠ env.locals := neN (by omega)
      have lc : (I + 2 + 1 : Addr) ≠ env.locals := neN (by omega)
      have lC : (I + 2 : Addr) ≠ env.locals := neN (by omega)
      have lD : (I + 1 : Addr) ≠ env.locals := neN (by omega)
      refine wpAny_assign_Name (wpAny_storeName_cell (by simp [compEnvC, relabel, hkind]) hx (by simp [compEnvC]) cc₂ fun h₃ hc₃ hs₃ => ?_)
      refine wpAny_tests_nil ?_
      simp only [if_true]
      have F₃ : Fr h₀ env.locals h₃ m := (frBut F' hI0 lI keepI).change hs₃ lc hc0
      have st₃ : IsRangeIter h₃ I (0 + ((i + 1 : Nat) : Int) * 1) ((n : Int) - ((i + 1 : Nat) : Int)) 1 := W.frame _ _ _ st₂ fun b hb o e => hs₃.extBut b o (by rw [List.mem_singleton.mp hb]; exact neN (by omega)) e
      have hn₃ : h₃.Ns (I + 2) (fun _ => none) := (hn'.at' fun o e => keepI _ o (neN (by omega)) e).sameBut hs₃ (neN (by omega))
      obtain ⟨oC, heC, hoC⟩ := LCg.ns_obj hn₃
      obtain ⟨oc, hoc, hdc⟩ := hc₃
      obtain ⟨oI, heI⟩ : ∃ oI, h₃.get? I = some oI := ⟨_, st₃⟩
      have N₃ : News h₀ env.locals h₃ ((I, oI) :: (I + 2, oC) :: (I + 2 + 1, oc) :: (I + 1, LCg.lst ys) :: news') := fun p hp => by
        rcases List.mem_cons.mp hp with rfl | hp
        · exact ⟨heI, lI, hI0⟩
        · rcases List.mem_cons.mp hp with rfl | hp
          · exact ⟨heC, lC, hC0⟩
          · rcases List.mem_cons.mp hp with rfl | hp
            · exact ⟨hoc, lc, hc0⟩
            · have z := N' p hp
              refine ⟨hs₃.extBut _ _ ?_ (keepI _ _ ?_ z.1), z.2⟩
              · rcases List.mem_cons.mp hp with rfl | hp
                · exact neN (by show I + 1 ≠ I + 2 + 1; omega)
                · exact (off' p hp).2.2.1
              · rcases List.mem_cons.mp hp with rfl | hp
                · exact neN (by show I + 1 ≠ I; omega)
                · exact (off' p hp).1
      refine wpAny_mono (turn i t' _ I oI (I + 2) oC (I + 2 + 1) oc (I + 1) h₃ _ ys news' hlt rfl hdc F₃ N₃ off' ⟨neN (by omega), neN (by omega), neN (by omega), neN (by omega), neN (by omega), neN (by omega)⟩ hY) (fun y' s₄ h₄ => ?_) fun _ _ e => e.elim
      obtain ⟨h₄, tk₄, news₄, rfl, F₄, N₄, off₄, hY₄⟩ := h₄
      have zI := (N₄ (I, oI) (.head _)).1
      have zC := (N₄ (I + 2, oC) (.tail _ (.head _))).1
      have zc := (N₄ (I + 2 + 1, oc) (.tail _ (.tail _ (.head _)))).1
      have zD := (N₄ (I + 1, LCg.lst ys) (.tail _ (.tail _ (.tail _ (.head _))))).1
      refine append_at (hsz := by show ys.toArray.size ≤ sizeLine; rw [List.size_toArray, hyl]; exact Nat.le_trans hi hsz) zD fun h₅ hs₅ hD₅ => ?_
      have st₄ : IsRangeIter h₄ I (0 + ((i + 1 : Nat) : Int) * 1) ((n : Int) - ((i + 1 : Nat) : Int)) 1 := by
        have e : h₃.get? I = some _ := st₃
        rw [heI] at e
        cases e
        exact zI
      refine ⟨n + 1 - (i + 1), by omega, h₅, tk₄, i + 1, ys ++ [y'], news₄, some _, rfl, hlt, rfl, by rw [List.length_append, List.length_singleton, hyl], W.frame _ _ _ st₄ fun b hb o e => hs₅.extBut b o (by rw [List.mem_singleton.mp hb]; exact neN (by omega)) e,
        F₄.change hs₅ lD hD0, (hoC.ns zC).sameBut hs₅ (neN (by omega)), ⟨oc, hs₅.extBut _ _ (neN (by omega)) zc, hdc⟩, fun p hp => ?_, off₄, hY₄⟩
      rcases List.mem_cons.mp hp with rfl | hp
      · exact ⟨hD₅.trans (congrArg some (LCg.lst_snoc ys y')), lD, hD0⟩
      · have z := N₄ p (.tail _ (.tail _ (.tail _ (.tail _ hp))))
        exact ⟨hs₅.extBut _ _ (off₄ p hp).2.2.2 z.1, z.2⟩
    · obtain rfl : i = n := Nat.le_antisymm hi (Nat.not_lt.mp hlt)
      refine W.done _ _ _ st' fun h₂ tk₂ hk₂ => ?_
      have keepI : ∀ b o, b ≠ I → h'.get? b = some o → h₂.get? b = some o := fun b o hb e => hk₂ b o (by simpa using hb) e
      have hI0 : h₀.get? I = none := fresh₀ _ (Nat.le_refl _)
      have hLn := ltN hLI
      have lI : (I : Addr) ≠ env.locals := neN (by omega)
      have lC : (I + 2 : Addr) ≠ env.locals := neN (by omega)
      have hC0 : h₀.get? (I + 2) = none := fresh₀ _ (by show I ≤ I + 2; omega)
      have F₂ := frBut F' hI0 lI keepI
      show wpAny _ A (assign (.Name y py) env (.ref (I + 1))) _ _ _
      refine wpAny_assign_Name (wpAny_storeName_local hy F₂.ns (fun h₃ hn₃ hs₃ => ?_) hp)
      refine ⟨_, (hn'.at' fun o e => keepI _ o (neN (by omega)) e).sameBut hs₃ lC, fun h₄ hs₄ => ?_⟩
      refine fin (I + 1) h₄ _ ys news' ((F₂.set hn₃ hs₃).change hs₄ lC hC0) (fun p hp => ?_) (fun p hp => (off' p hp).2.2.2) hY
      have z := N' p hp
      refine ⟨hs₄.extBut _ _ ?_ (hs₃.extBut _ _ z.2.1 (keepI _ _ ?_ z.1)), z.2⟩
      · rcases List.mem_cons.mp hp with rfl | hp
        · exact neN (by show I + 1 ≠ I + 2; omega)
        · exact (off' p hp).2.1
      · rcases List.mem_cons.mp hp with rfl | hp
        · exact neN (by show I + 1 ≠ I; omega)
        · exact (off' p hp).1
  exact codeAny_compStart_list (loop _ ⟨_, rfl⟩) (W.self 0 _ _ _ st0 (loop _ ⟨_, rfl⟩))
theorem all (v : V) : P v := byEps (v0 := v0) (by unfold v0; rfl) main v
end kacc0
theorem acc0 {prog : Program} {w : World} {A : Around} {E : Value → Shared → Prop} {s : Shared} {h₀ : Heap} {m : Str → Option Value} {env : Env} {elt iter : Expr} {x y : Str} {px py : Pos} {scope : Scope} {cl : List (Str × Addr)} {pos spos : Pos} {Q : Flow → Shared → Prop} {n : Nat} (hsw : swapsWith (.ListComp elt [⟨.Name x px, iter, [], 0⟩] scope pos) (some (.Name y py)) spos.line env = pure true) (hclos : closureFor scope env = pure cl) (hc : ∀ n, cellsFrom n scope.names cl = (x, n) :: cl) (hpc : ∀ h, pushCells h scope.names = h.push { cls := .type "cell", data := .cell none }) (hkind : scope.kind = .function) (hnames : ∀ z ∈ scope.names, z.2 = .local → scope.names.lookup z.1 = some .local) (hx : (relabel scope env).names.lookup x = some .cell) (hy : env.kindOf y = some .local) (hp : (env.scope.kind == .class || (env.scope.kind == .module && env.locals != env.globals)) = false) (hh : A.handled = none) (Y : Nat → List Value → List (Addr × Obj) → Prop) (h : wpAny (model prog w) A (eval iter env) (SrcC prog w A h₀ env.locals m env elt x scope cl n y Y Q) E s) (hs : ∀ x, foldedSetIterable iter env x = pure x) :
    wpAny (model prog w) A (exec (.Assign [.Name y py] (.ListComp elt [⟨.Name x px, iter, [], 0⟩] scope pos) spos) env) Q E s := kacc0.all (prog, w, A, E, s, h₀, m, env, elt, iter, x, y, px, py, scope, cl, pos, spos, Q, Y) n hsw hclos hc hpc hkind hnames hx hy hp hh h hs
end
section
variable {prog : Program} {w : World} {A : Around} {E : Value → Shared → Prop} {s : Shared} {h₀ : Heap} {L : Addr} {m : Str → Option Value} {env : Env}
theorem assign_comp_cell {elt iter : Expr} {x y : Str} {px py : Pos} {scope : Scope} {cl : List (Str × Addr)} {pos spos : Pos} {Q : Flow → Shared → Prop} {n : Nat} (hLe : env.locals = L)
    (hsw : swapsWith (.ListComp elt [⟨.Name x px, iter, [], 0⟩] scope pos) (some (.Name y py)) spos.line env = pure true)
    (hclos : closureFor scope env = pure cl) (hc : ∀ n, cellsFrom n scope.names cl = (x, n) :: cl) (hpc : ∀ h, pushCells h scope.names = h.push { cls := .type "cell", data := .cell none }) (hkind : scope.kind = .function)
    (hnames : ∀ z ∈ scope.names, z.2 = .local → scope.names.lookup z.1 = some .local) (hx : (relabel scope env).names.lookup x = some .cell)
    (hy : env.kindOf y = some .local) (hp : (env.scope.kind == .class || (env.scope.kind == .module && env.locals != env.globals)) = false) (hh : A.handled = none)
    (Y : Nat → List Value → List (Addr × Obj) → Prop)
    (h : wpAny (model prog w) A (eval iter env) (SrcC prog w A h₀ L m env elt x scope cl n y Y Q) E s)
    (hs : ∀ x, foldedSetIterable iter env x = pure x := by intro _; rfl) :
    wpAny (model prog w) A (exec (.Assign [.Name y py] (.ListComp elt [⟨.Name x px, iter, [], 0⟩] scope pos) spos) env) Q E s := by
  subst hLe
  exact acc0 hsw hclos hc hpc hkind hnames hx hy hp hh Y h hs
end
end Mine
end
-- part LawC
section
open PySem PySem.W PySem.Calls PyProof.Rows
namespace Mine
theorem small9 {n : Nat} (h : n ≤ 9) : Builtin.Range.small 0 (n : Int) 1 = true ∧ Builtin.Range.rangeSize 0 (n : Int) 1 = ((n : Nat) : Int) ∧ n ≤ sizeLine := by
  have : n = 0 ∨ n = 1 ∨ n = 2 ∨ n = 3 ∨ n = 4 ∨ n = 5 ∨ n = 6 ∨ n = 7 ∨ n = 8 ∨ n = 9 := by omega
  have h9 : (9 : Nat) ≤ sizeLine := by decide
  refine ⟨?_, ?_, by omega⟩
  · rcases this with rfl | rfl | rfl | rfl | rfl | rfl | rfl | rfl | rfl | rfl <;> decide
  · rcases this with rfl | rfl | rfl | rfl | rfl | rfl | rfl | rfl | rfl | rfl <;> decide
section
variable {fa : Addr} {w : World} {A : Around} {s : Shared} {p : Program} {loose : List Str} {mean : ExcName → Option Value} {mg mb : Str → Option Value} {g : Heap} {L : Nat} {E : Value → Shared → Prop} {Q : Flow → Shared → Prop}
noncomputable def turnI (N k : Nat) : List Int := (List.range N).map fun j => (((k + j) % N : Nat) : Int)
/-- the lists of the turns, in the ledger's part tn -/
structure TurnsL (L N i : Nat) (ys : List Value) (tn : List (Addr × Obj)) : Prop where
  len : ys.length = i
  at' : ∀ k, k < i → ∃ d vs nn, ys[k]? = some (.ref d) ∧ (d, listOf vs.toArray nn) ∈ tn ∧ IntsAre vs (turnI N k)
  off : ∀ q ∈ tn, q.1 ≠ L + 1 + 1 + 1 + 1 + 1 + 1 ∧ q.1 ≠ 75 ∧ q.1 ≠ 68 ∧ q.1 ≠ 159
theorem TurnsL.next {L N i : Nat} {ys us : List Value} {tn : List (Addr × Obj)} {D : Addr} (x : TurnsL L N i ys tn) (hus : IntsAre us (turnI N i)) (hD : D ≠ L + 1 + 1 + 1 + 1 + 1 + 1 ∧ D ≠ 75 ∧ D ≠ 68 ∧ D ≠ 159) : TurnsL L N (i + 1) (ys ++ [.ref D]) ((D, LCg.lst us) :: tn) where
  len := by simp [x.len]
  at' := fun k hk => by
    by_cases h : k < i
    · obtain ⟨d, vs, nn, h1, h2, h3⟩ := x.at' k h
      exact ⟨d, vs, nn, by rw [List.getElem?_append_left (by rw [x.len]; exact h)]; exact h1, .tail _ h2, h3⟩
    · obtain rfl : k = i := by omega
      exact ⟨D, us, us.length, by rw [List.getElem?_append_right (by rw [x.len]; exact Nat.le_refl _), x.len, Nat.sub_self]; rfl, .head _, hus⟩
  off := fun q hq => by
    rcases List.mem_cons.mp hq with rfl | hq
    · exact hD
    · exact x.off q hq
theorem off1_mem {D : Addr} {l : List (Addr × Obj)} (h : LCg.Off1 D l) : ∀ q ∈ l, q.1 ≠ D := by
  induction l with
  | nil => intro q hq; cases hq
  | cons p r ih =>
    intro q hq
    rcases List.mem_cons.mp hq with rfl | hq
    · exact h.1
    · exact ih h.2 q hq
theorem subC1 {a b c d e1 e2 e3 e4 e5 e6 e7 e8 x : Addr × Obj} {tn : List (Addr × Obj)} : ∀ q ∈ a :: b :: c :: d :: e1 :: e2 :: e3 :: e4 :: e5 :: e6 :: e7 :: e8 :: x :: tn, q ∈ x :: a :: b :: c :: d :: e1 :: e2 :: e3 :: e4 :: e5 :: e6 :: e7 :: e8 :: tn := fun _ hq => mem_move [a, b, c, d, e1, e2, e3, e4, e5, e6, e7, e8] hq
theorem subC2 {e1 e2 e3 e4 e5 e6 e7 e8 x : Addr × Obj} {tn : List (Addr × Obj)} : ∀ q ∈ e1 :: e2 :: e3 :: e4 :: e5 :: e6 :: e7 :: e8 :: x :: tn, q = x ∨ q ∈ e1 :: e2 :: e3 :: e4 :: e5 :: e6 :: e7 :: e8 :: tn := fun _ hq => List.mem_cons.mp (mem_move [e1, e2, e3, e4, e5, e6, e7, e8] hq)
/-- the state behind the turns -/
noncomputable def AtC (g : Heap) (L : Nat) (f e rd : Nat) (C : Nat) (ys : List Value) (ns : List Int) (Dt : Addr) (ts : List Value) (tn : List (Addr × Obj)) (h : Heap) : Prop :=
  ∃ m tf te tr nn o3 o4 o5 o6 t4 t5, Fr g L h m ∧ m (Str.ofString "turns") = some (.ref Dt) ∧ m (Str.ofString "factor") = some (.int (f : Int) tf) ∧ m (Str.ofString "extra") = some (.int (e : Int) te) ∧ m (Str.ofString "rounds") = some (.int (rd : Int) tr) ∧
    News g L h ((Dt, LCg.lst ts) :: (C, listOf ys.toArray nn) :: (L + 1 + 1 + 1 + 1 + 1 + 1, o6) :: (L + 1 + 1 + 1 + 1 + 1, o5) :: (L + 1 + 1 + 1 + 1, o4) :: (L + 1 + 1 + 1, o3) :: (75, tabObj #[]) :: (68, tabObj #[]) :: (159, tabObj #[]) :: tn) ∧
    (∀ q ∈ (C, listOf ys.toArray nn) :: (L + 1 + 1 + 1 + 1 + 1 + 1, o6) :: (L + 1 + 1 + 1 + 1 + 1, o5) :: (L + 1 + 1 + 1 + 1, o4) :: (L + 1 + 1 + 1, o3) :: (75, tabObj #[]) :: (68, tabObj #[]) :: (159, tabObj #[]) :: tn, q.1 ≠ Dt) ∧
    o3.data = .cell (some (.ref C)) ∧ o4.data = .cell (some (.str (mkS (ringL ns)) t4)) ∧ o5.data = .cell (some (.int ((ringL ns).length : Int) t5)) ∧ o6.data = .cell none ∧ IntsAre ys ns ∧ ns.length = 11 ∧ TurnsL L (ringL ns).length (ringL ns).length ts tn ∧
    L + 1 + 1 + 1 + 1 + 1 + 1 ≠ C ∧ L + 1 + 1 + 1 + 1 + 1 ≠ C ∧ L + 1 + 1 + 1 + 1 ≠ C ∧ L + 1 + 1 + 1 ≠ C ∧ 75 ≠ C ∧ 68 ≠ C ∧ 159 ≠ C
end
section
namespace ksegC
noncomputable abbrev V := (Addr) × (World) × (Around) × (Shared) × (Program) × (List Str) × (ExcName → Option Value) × (Str → Option Value) × (Str → Option Value) × (Heap) × (Nat) × (Value → Shared → Prop) × (Flow → Shared → Prop) × (Nat) × (Nat) × (Nat) × (Nat) × (List Value) × (List Int)
noncomputable def P (v : V) : Prop :=
  (fun (fa : Addr) (w : World) (A : Around) (s : Shared) (p : Program) (loose : List Str) (mean : ExcName → Option Value) (mg : Str → Option Value) (mb : Str → Option Value) (g : Heap) (L : Nat) (E : Value → Shared → Prop) (Q : Flow → Shared → Prop) (f : Nat) (e : Nat) (rd : Nat) (C : Nat) (ys : List Value) (ns : List Int) =>
  ∀ (nm qual : Str) (ps : Arguments) (body : List Stmt) (sc : Scope) (dV kV doc pm cdv ct oc : Value) (an od : Option Addr) (osl : Array (Option Value)) (hK : (hd.heap_39 w.params).lookup 162 = some ⟨oc, od, .func (fnOf nm qual ps body sc dV kV doc pm an cdv ct), osl⟩) (X : (hd.heap_39 w.params).In g) (T : Top p loose mean mg mb g) (hh : A.handled = none) (hroom : A.depth + 60 < recursionLimit) (hA : AtB g L f e rd C ys ns s.heap) (hL : 159 < L) (hnext : ∀ h' tk Dt ts tn, AtC g L f e rd C ys ns Dt ts tn h' → wpAny (model PySem.Challenge.rw_rs0108_01.row.prog w) (A.deeper (envOfC nm sc L fa (.ref 161))) (execs (body.drop 9) (envOfC nm sc L fa (.ref 161))) Q E { s with heap := h', toks := tk }), wpAny (model PySem.Challenge.rw_rs0108_01.row.prog w) (A.deeper (envOfC nm sc L fa (.ref 161))) (execs (body.drop 8) (envOfC nm sc L fa (.ref 161))) Q E s)
    v.1 v.2.1 v.2.2.1 v.2.2.2.1 v.2.2.2.2.1 v.2.2.2.2.2.1 v.2.2.2.2.2.2.1 v.2.2.2.2.2.2.2.1 v.2.2.2.2.2.2.2.2.1 v.2.2.2.2.2.2.2.2.2.1 v.2.2.2.2.2.2.2.2.2.2.1 v.2.2.2.2.2.2.2.2.2.2.2.1 v.2.2.2.2.2.2.2.2.2.2.2.2.1 v.2.2.2.2.2.2.2.2.2.2.2.2.2.1 v.2.2.2.2.2.2.2.2.2.2.2.2.2.2.1 v.2.2.2.2.2.2.2.2.2.2.2.2.2.2.2.1 v.2.2.2.2.2.2.2.2.2.2.2.2.2.2.2.2.1 v.2.2.2.2.2.2.2.2.2.2.2.2.2.2.2.2.2.1 v.2.2.2.2.2.2.2.2.2.2.2.2.2.2.2.2.2.2
@[irreducible] noncomputable def v0 : V := @Classical.epsilon V ⟨(0, aW, callerA, {}, PySem.Challenge.rw_rs0108_01.row.prog, [], fun _ => none, fun _ => none, fun _ => none, {}, 0, fun _ _ => True, fun _ _ => True, 0, 0, 0, 0, [], [])⟩ fun v => ¬ P v
noncomputable def fa : Addr := v0.1
noncomputable def w : World := v0.2.1
noncomputable def A : Around := v0.2.2.1
noncomputable def s : Shared := v0.2.2.2.1
noncomputable def p : Program := v0.2.2.2.2.1
noncomputable def loose : List Str := v0.2.2.2.2.2.1
noncomputable def mean : ExcName → Option Value := v0.2.2.2.2.2.2.1
noncomputable def mg : Str → Option Value := v0.2.2.2.2.2.2.2.1
noncomputable def mb : Str → Option Value := v0.2.2.2.2.2.2.2.2.1
noncomputable def g : Heap := v0.2.2.2.2.2.2.2.2.2.1
noncomputable def L : Nat := v0.2.2.2.2.2.2.2.2.2.2.1
noncomputable def E : Value → Shared → Prop := v0.2.2.2.2.2.2.2.2.2.2.2.1
noncomputable def Q : Flow → Shared → Prop := v0.2.2.2.2.2.2.2.2.2.2.2.2.1
noncomputable def f : Nat := v0.2.2.2.2.2.2.2.2.2.2.2.2.2.1
noncomputable def e : Nat := v0.2.2.2.2.2.2.2.2.2.2.2.2.2.2.1
noncomputable def rd : Nat := v0.2.2.2.2.2.2.2.2.2.2.2.2.2.2.2.1
noncomputable def C : Nat := v0.2.2.2.2.2.2.2.2.2.2.2.2.2.2.2.2.1
noncomputable def ys : List Value := v0.2.2.2.2.2.2.2.2.2.2.2.2.2.2.2.2.2.1
noncomputable def ns : List Int := v0.2.2.2.2.2.2.2.2.2.2.2.2.2.2.2.2.2.2
set_option maxHeartbeats 8000000 in
theorem main (nm qual : Str) (ps : Arguments) (body : List Stmt) (sc : Scope) (dV kV doc pm cdv ct oc : Value) (an od : Option Addr) (osl : Array (Option Value)) (hK : (hd.heap_39 w.params).lookup 162 = some ⟨oc, od, .func (fnOf nm qual ps body sc dV kV doc pm an cdv ct), osl⟩) (X : (hd.heap_39 w.params).In g) (T : Top p loose mean mg mb g) (hh : A.handled = none) (hroom : A.depth + 60 < recursionLimit) (hA : AtB g L f e rd C ys ns s.heap) (hL : 159 < L) (hnext : ∀ h' tk Dt ts tn, AtC g L f e rd C ys ns Dt ts tn h' → wpAny (model PySem.Challenge.rw_rs0108_01.row.prog w) (A.deeper (envOfC nm sc L fa (.ref 161))) (execs (body.drop 9) (envOfC nm sc L fa (.ref 161))) Q E { s with heap := h', toks := tk }) :
    wpAny (model PySem.Challenge.rw_rs0108_01.row.prog w) (A.deeper (envOfC nm sc L fa (.ref 161))) (execs (body.drop 8) (envOfC nm sc L fa (.ref 161))) Q E s := by
  w_top off
  revert hK X
  k_fill
  intro hK X
  refine look_parts hK (by k_is) ?_
  rintro rfl rfl rfl
  clear hK
  obtain ⟨m, tf, te, tr, nn, o3, o4, o5, o6, t4, t5, F, mf, me, mr, N, d3, d4, d5, d6, hys, h11, n1, n2, n3, n4, n5, n6, n7⟩ := hA
  obtain ⟨hrl, hh34⟩ := ringL_len h11
  obtain ⟨sz, hsz⟩ : ∃ sz, sz = (ringL ns).length := ⟨_, rfl⟩
  rw [← hsz] at d5
  unfold AtC at hnext
  rw [← hsz] at hnext
  have hs1 : 7 ≤ sz := by omega
  have hs2 : sz ≤ 9 := by omega
  dsimp only [List.drop] at hnext ⊢
  refine wp_cut 1 _ ?_
  dsimp only [List.take, List.drop]
  refine wpAny_execs_cons (assign_comp_cell (n := sz) (h₀ := g) (L := L) (m := m) rfl rfl rfl (fun _ => rfl) (fun _ => rfl) rfl (by decide) rfl rfl rfl hh (fun i ys' news => ∃ tn, news = (C, listOf ys.toArray nn) :: (L + 1 + 1 + 1 + 1 + 1 + 1, o6) :: (L + 1 + 1 + 1 + 1 + 1, o5) :: (L + 1 + 1 + 1 + 1, o4) :: (L + 1 + 1 + 1, o3) :: (75, tabObj #[]) :: (68, tabObj #[]) :: (159, tabObj #[]) :: tn ∧ TurnsL L sz i ys' tn) ?_)
  repeat' (first | with_reducible (show wpAny _ _ (eval (.ListComp ..) _) _ _ _; refine LCg.ListComp_U ‹_› rfl (by decide) rfl (by decide) rfl ?_ (fun _ => rfl)) | walk1)
  rename Fr _ _ _ _ => F2
  rename News _ _ _ _ => N2
  rename IsRange _ _ _ _ _ _ _ _ => hr2
  rename (∀ (b : Addr) (o : Obj), _ → _) => hk2
  clear hk2
  obtain ⟨r1, r2, r3⟩ := small9 hs2
  refine ⟨_, _, _, _, _, rfl, F2, N2, hr2, r1, r2, r3, ⟨[], rfl, ⟨rfl, fun k hk => absurd hk (Nat.not_lt_zero _), fun q hq => absurd hq List.not_mem_nil⟩⟩, ?_, ?_⟩
  · rintro i t v I oI Cc oC cc oc D h3 tk3 ys3 news3 hi rfl hd F3 N3 off ne ⟨tn, rfl, ht⟩
    have hszn : (sz : Int) ≠ 0 := by omega
    have hmin : (Int.ofNat sz) = (sz : Int) := rfl
    repeat' (first | with_reducible (show wpAny _ _ (eval (.ListComp ..) _) _ _ _; refine LCg.ListComp_U ‹_› rfl (by decide) rfl (by decide) rfl ?_ (fun _ => rfl)) | walk1)
    rename Fr _ _ _ _ => F4
    rename News _ _ _ _ => N4
    rename IsRange _ _ _ _ _ _ _ _ => hr4
    rename (∀ (b : Addr) (o : Obj), _ → _) => hk4
    clear hk4
    refine LCg.CompSrc.range (n := sz) hh F4 N4 hr4 r1 r2 r3 fun g4 => ?_
    refine comp_inv sz (fun j us news => news = (_, _) :: (_, _) :: (_, _) :: (_, _) :: (C, listOf ys.toArray nn) :: (L + 1 + 1 + 1 + 1 + 1 + 1, o6) :: (L + 1 + 1 + 1 + 1 + 1, o5) :: (L + 1 + 1 + 1 + 1, o4) :: (L + 1 + 1 + 1, o3) :: (75, tabObj #[]) :: (68, tabObj #[]) :: (159, tabObj #[]) :: tn ∧ IntsAre us ((turnI sz i).take j)) ?_ ?_ _ 0 [] _ (by simp) ⟨rfl, .nil⟩
    · rintro j v2 I2 oI2 C2 oC2 D2 m₂ h5 tk5 us news5 hj ⟨t5', rfl⟩ hC5 hm5 F5 N5 off5 ne5 ⟨rfl, hus⟩
      rw [Int.zero_add] at hm5
      repeat' (first | with_reducible (show wpAny _ _ (eval (.ListComp ..) _) _ _ _; refine LCg.ListComp_U ‹_› rfl (by decide) rfl (by decide) rfl ?_ (fun _ => rfl)) | walk1)
      rename Fr _ _ _ _ => F'
      rename News _ _ _ _ => N'
      refine end_same (more := []) F' N' off5 trivial ⟨rfl, ?_⟩
      have hg : (turnI sz i)[j]? = some (((i : Int) + (j : Int)).fmod (sz : Int)) := by
        unfold turnI
        rw [List.getElem?_map, List.getElem?_range hj, Int.fmod_eq_emod_of_nonneg _ (by omega)]
        simp
      rw [List.take_add_one, hg]
      exact hus.append (.cons _ _ .nil)
    · rintro us news5 ⟨rfl, hus⟩ D5 h6 tk6 F6 N6 off6
      simp only [LCg.Off1] at off6
      rw [List.take_of_length_le (by simp [turnI])] at hus
      obtain ⟨w1, w2, w3, w4, w5, w6, w7, w8, w9, w10, w11, w12, w13⟩ := off6
      have w13' := off1_mem w13
      refine ⟨h6, tk6, (C, listOf ys.toArray nn) :: (L + 1 + 1 + 1 + 1 + 1 + 1, o6) :: (L + 1 + 1 + 1 + 1 + 1, o5) :: (L + 1 + 1 + 1 + 1, o4) :: (L + 1 + 1 + 1, o3) :: (75, tabObj #[]) :: (68, tabObj #[]) :: (159, tabObj #[]) :: (D5, LCg.lst us) :: tn, rfl, F6, fun q hq => N6 q (subC1 q hq), ?_, _, rfl, ht.next hus ⟨neN (Ne.symm w6), neN (Ne.symm w10), neN (Ne.symm w11), neN (Ne.symm w12)⟩⟩
      intro q hq
      rcases subC2 q hq with rfl | hq
      · exact ⟨Ne.symm w1, Ne.symm w2, Ne.symm w3, Ne.symm w4⟩
      · exact off q hq
  · rintro Dt h6 tk6 ts news6 F6 N6 off6 ⟨tn, rfl, ht⟩
    dsimp only
    repeat' (first | with_reducible (show wpAny _ _ (eval (.ListComp ..) _) _ _ _; refine LCg.ListComp_U ‹_› rfl (by decide) rfl (by decide) rfl ?_ (fun _ => rfl)) | walk1)
    refine .mk ?_
    exact hnext _ _ Dt ts tn ⟨_, _, _, _, _, _, _, _, _, _, _, F6, rfl, mf, me, mr, N6, off6, d3, d4, d5, d6, hys, h11, ht, n1, n2, n3, n4, n5, n6, n7⟩
theorem all (v : V) : P v := byEps (v0 := v0) (by unfold v0; rfl) main v
end ksegC
theorem segC {fa : Addr} {w : World} {A : Around} {s : Shared} {p : Program} {loose : List Str} {mean : ExcName → Option Value} {mg : Str → Option Value} {mb : Str → Option Value} {g : Heap} {L : Nat} {E : Value → Shared → Prop} {Q : Flow → Shared → Prop} {nm qual : Str} {ps : Arguments} {body : List Stmt} {sc : Scope} {dV kV doc pm cdv ct oc : Value} {an od : Option Addr} {osl : Array (Option Value)} {f e rd C : Nat} {ys : List Value} {ns : List Int} (hK : (hd.heap_39 w.params).lookup 162 = some ⟨oc, od, .func (fnOf nm qual ps body sc dV kV doc pm an cdv ct), osl⟩) (X : (hd.heap_39 w.params).In g) (T : Top p loose mean mg mb g) (hh : A.handled = none) (hroom : A.depth + 60 < recursionLimit) (hA : AtB g L f e rd C ys ns s.heap) (hL : 159 < L) (hnext : ∀ h' tk Dt ts tn, AtC g L f e rd C ys ns Dt ts tn h' → wpAny (model PySem.Challenge.rw_rs0108_01.row.prog w) (A.deeper (envOfC nm sc L fa (.ref 161))) (execs (body.drop 9) (envOfC nm sc L fa (.ref 161))) Q E { s with heap := h', toks := tk }) :
    wpAny (model PySem.Challenge.rw_rs0108_01.row.prog w) (A.deeper (envOfC nm sc L fa (.ref 161))) (execs (body.drop 8) (envOfC nm sc L fa (.ref 161))) Q E s := ksegC.all (fa, w, A, s, p, loose, mean, mg, mb, g, L, E, Q, f, e, rd, C, ys, ns) nm qual ps body sc dV kV doc pm cdv ct oc an od osl hK X T hh hroom hA hL hnext
end
end Mine
end
-- part LawD
section
open PySem PySem.W PySem.Calls PyProof.Rows
namespace Mine
theorem canLayAll0_strs : ∀ ss : List Str, (∀ y ∈ ss, PyData.strOk y = true) → PyData.canLayAll0 (ss.map PyData.str) = true
  | [], _ => rfl
  | a :: r, h => by simp [PyData.canLayAll0, PyData.canLay0, canLayAll0_strs r fun y hy => h y (.tail _ hy), h a (.head _)]
theorem shaped_strs (ss : List Str) (h : ∀ y ∈ ss, PyData.strOk y = true) : SeqAt.shaped (.list (ss.map PyData.str)) = true := by
  simp [SeqAt.shaped, PyData.canLay0, PyData.depth, canLayAll0_strs ss h, depthAll_strs']
theorem sameAll_strs : ∀ ns ms : List Str, PySem.Spec.sameAll (ns.map PyData.str) (ms.map PyData.str) = decide (ns = ms)
  | [], [] => by simp [PySem.Spec.sameAll]
  | [], _ :: _ => by simp [PySem.Spec.sameAll]
  | _ :: _, [] => by simp [PySem.Spec.sameAll]
  | a :: r, b :: t => by
    simp only [List.map_cons, PySem.Spec.sameAll, PySem.Spec.same, sameAll_strs r t]
    by_cases h : a = b <;> by_cases h' : r = t <;> simp [h, h']
theorem same_strs (ns ms : List Str) : PySem.Spec.same (.list (ns.map PyData.str)) (.list (ms.map PyData.str)) = decide (ns = ms) := by
  simp only [PySem.Spec.same]; exact sameAll_strs ns ms
theorem carried_strs : ∀ l : List (Str × Tok), CarriedAll (strValues l) ((l.map (·.1)).map PyData.str)
  | [] => .nil
  | (y, t) :: r => .cons (.str y t) (carried_strs r)
section
variable {fa : Addr} {w : World} {A : Around} {s : Shared} {p : Program} {loose : List Str} {mean : ExcName → Option Value} {mg mb : Str → Option Value} {g : Heap} {L : Nat} {E : Value → Shared → Prop} {Q : Flow → Shared → Prop}
theorem ne_strs {prog : Program} {B : Around} {env : Env} {a b : Addr} {x y : List (Str × Tok)} {Q : Value → Shared → Prop} (ha : s.heap.IsList a (strValues x).toArray) (hb : s.heap.IsList b (strValues y).toArray) (hu : ∀ env, (B.deeper env).units + 64 < cLine) (hx : ∀ z ∈ x.map (·.1), PyData.strOk z = true) (hy : ∀ z ∈ y.map (·.1), PyData.strOk z = true)
    (h : Q (.bool (!decide (x.map (·.1) = y.map (·.1)))) s) : wpAny (model prog w) (B.deeper env) (compareOp .NotEq (.ref a) (.ref b)) Q E s :=
  ne_dataH_same (reads_newData ha (carried_strs x)) (reads_newData hb (carried_strs y)) (shaped_strs _ hx) (shaped_strs _ hy) (hu env) (SeqAt.noMix_of_shape (.list .str) rfl _ _ (list_map_has fun _ => rfl) (list_map_has fun _ => rfl)) (by rw [same_strs]; exact h)
theorem ok_mkS {l : List Nat} (h : ∀ c ∈ l, c < 128) : PyData.strOk (mkS l) = true := by
  simp [PyData.strOk, mkS]
  intro c hc
  have := h c hc
  omega
theorem use_mail {C d : Addr} {vd vs : List Value} {ts ns : List Int} {r : List Nat} {tr : Tok} {m : Str → Option Value} {news : List (Addr × Obj)} {Q : Value → Shared → Prop} (F : Fr g L s.heap m) (N : News g L s.heap news) (hD : s.heap.IsList d vd.toArray) (hdi : IntsAre vd ts) (hC : s.heap.IsList C vs.toArray) (hi : IntsAre vs ns) (h11 : ns.length = 11) (hr : r.length ≤ 9)
    (hds : ∀ k ∈ ts, 0 ≤ k ∧ k < r.length) (hdl : ts.length ≤ 9) (hne : (ts.filter (isO r)) ≠ []) (h4 : (ts.filter fun k => !isO r k).length ≤ 4)
    (X : (hd.heap_39 w.params).In g) (T : Top p loose mean mg mb g) (hroom : A.depth + 9 < recursionLimit) (hh : A.handled = none)
    (h : ∀ h' tk t', Fr g L h' m → News g L h' news → Q (.str (mkS (mailL r ns ts)) t') { s with heap := h', toks := tk }) :
    wpAny (model PySem.Challenge.rw_rs0108_01.row.prog w) A (call (.ref 142) [.ref d, .str (mkS r) tr, .ref C]) Q E s := by
  refine use_fr F N (mail_spec hD hdi hC hi h11 hr hds hdl hne h4 (X.keeps F.keep) (T.keeps F.keep) hroom hh) ?_
  rintro v h' tk F' N' ⟨t', rfl⟩
  exact h h' tk t' F' N'
theorem use_due {C d : Addr} {vd vs : List Value} {ts ns : List Int} {r : List Nat} {tr : Tok} {m : Str → Option Value} {news : List (Addr × Obj)} {Q : Value → Shared → Prop} (F : Fr g L s.heap m) (N : News g L s.heap news) (hD : s.heap.IsList d vd.toArray) (hdi : IntsAre vd ts) (hC : s.heap.IsList C vs.toArray) (hi : IntsAre vs ns) (h11 : ns.length = 11) (hr : r.length ≤ 9)
    (hds : ∀ k ∈ ts, 0 ≤ k ∧ k < r.length) (hdl : ts.length ≤ 9) (hne : (ts.filter (isO r)) ≠ [])
    (X : (hd.heap_39 w.params).In g) (T : Top p loose mean mg mb g) (hroom : A.depth + 9 < recursionLimit) (hh : A.handled = none)
    (h : ∀ h' tk t', Fr g L h' m → News g L h' news → Q (.str (mkS (dueL r ns ts)) t') { s with heap := h', toks := tk }) :
    wpAny (model PySem.Challenge.rw_rs0108_01.row.prog w) A (call (.ref 147) [.ref d, .str (mkS r) tr, .ref C]) Q E s := by
  refine use_fr F N (due_spec hD hdi hC hi h11 hr hds hdl hne (X.keeps F.keep) (T.keeps F.keep) hroom hh) ?_
  rintro v h' tk F' N' ⟨t', rfl⟩
  exact h h' tk t' F' N'
theorem sv_snoc {l : List (Str × Tok)} {y : Str} {t : Tok} : strValues l ++ [.str y t] = strValues (l ++ [(y, t)]) := by simp [strValues]
theorem mailL_ok (r : List Nat) (ns ts : List Int) : PyData.strOk (mkS (mailL r ns ts)) = true :=
  ok_mkS (mail_bounds r ns (lastO r ts) ts [] 0 (Nat.le_refl _) (fun c hc => absurd hc List.not_mem_nil)).2
/-- what is asked of a ring -/
structure RingOk (r : List Nat) : Prop where
  lo : 7 ≤ r.length
  hi : r.length ≤ 9
  ne : ∀ k, k < r.length → (turnI r.length k).filter (isO r) ≠ []
  few : ∀ k, k < r.length → ((turnI r.length k).filter fun j => !isO r j).length ≤ 4
theorem turnI_mem {N k : Nat} {j : Int} (hN : 0 < N) (h : j ∈ turnI N k) : 0 ≤ j ∧ j < N := by
  obtain ⟨i, _, rfl⟩ := List.mem_map.mp h
  have := Nat.mod_lt (k + i) hN
  omega
/-- the state behind the mails -/
noncomputable def AtD (g : Heap) (L : Nat) (f e rd C : Nat) (ys : List Value) (ns : List Int) (Dt : Addr) (ts : List Value) (tn : List (Addr × Obj)) (Dm : Addr) (l : List (Str × Tok)) (h : Heap) : Prop :=
  ∃ m tf te tr nn o3 o4 o5 o6 t4 t5, Fr g L h m ∧ m (Str.ofString "mails") = some (.ref Dm) ∧ m (Str.ofString "turns") = some (.ref Dt) ∧ m (Str.ofString "factor") = some (.int (f : Int) tf) ∧ m (Str.ofString "extra") = some (.int (e : Int) te) ∧ m (Str.ofString "rounds") = some (.int (rd : Int) tr) ∧
    News g L h ((Dm, LCg.lst (strValues l)) :: (Dt, LCg.lst ts) :: (C, listOf ys.toArray nn) :: (L + 1 + 1 + 1 + 1 + 1 + 1, o6) :: (L + 1 + 1 + 1 + 1 + 1, o5) :: (L + 1 + 1 + 1 + 1, o4) :: (L + 1 + 1 + 1, o3) :: (75, tabObj #[]) :: (68, tabObj #[]) :: (159, tabObj #[]) :: tn) ∧
    (∀ q ∈ (Dt, LCg.lst ts) :: (C, listOf ys.toArray nn) :: (L + 1 + 1 + 1 + 1 + 1 + 1, o6) :: (L + 1 + 1 + 1 + 1 + 1, o5) :: (L + 1 + 1 + 1 + 1, o4) :: (L + 1 + 1 + 1, o3) :: (75, tabObj #[]) :: (68, tabObj #[]) :: (159, tabObj #[]) :: tn, q.1 ≠ Dm) ∧
    (∀ q ∈ (C, listOf ys.toArray nn) :: (L + 1 + 1 + 1 + 1 + 1 + 1, o6) :: (L + 1 + 1 + 1 + 1 + 1, o5) :: (L + 1 + 1 + 1 + 1, o4) :: (L + 1 + 1 + 1, o3) :: (75, tabObj #[]) :: (68, tabObj #[]) :: (159, tabObj #[]) :: tn, q.1 ≠ Dt) ∧
    o3.data = .cell (some (.ref C)) ∧ o4.data = .cell (some (.str (mkS (ringL ns)) t4)) ∧ o5.data = .cell (some (.int ((ringL ns).length : Int) t5)) ∧ o6.data = .cell none ∧ IntsAre ys ns ∧ ns.length = 11 ∧ TurnsL L (ringL ns).length (ringL ns).length ts tn ∧
    L + 1 + 1 + 1 + 1 + 1 + 1 ≠ C ∧ L + 1 + 1 + 1 + 1 + 1 ≠ C ∧ L + 1 + 1 + 1 + 1 ≠ C ∧ L + 1 + 1 + 1 ≠ C ∧ 75 ≠ C ∧ 68 ≠ C ∧ 159 ≠ C ∧
    l.map (·.1) = (List.range (ringL ns).length).map fun k => mkS (mailL (ringL ns) ns (turnI (ringL ns).length k))
theorem turnI_len (N k : Nat) : (turnI N k).length = N := by simp [turnI]
end
section
namespace ksegD
noncomputable abbrev V := (Addr) × (World) × (Around) × (Shared) × (Program) × (List Str) × (ExcName → Option Value) × (Str → Option Value) × (Str → Option Value) × (Heap) × (Nat) × (Value → Shared → Prop) × (Flow → Shared → Prop) × (Nat) × (Nat) × (Nat) × (Nat) × (List Value) × (List Value) × (List Int) × (Addr) × (List (Addr × Obj))
noncomputable def P (v : V) : Prop :=
  (fun (fa : Addr) (w : World) (A : Around) (s : Shared) (p : Program) (loose : List Str) (mean : ExcName → Option Value) (mg : Str → Option Value) (mb : Str → Option Value) (g : Heap) (L : Nat) (E : Value → Shared → Prop) (Q : Flow → Shared → Prop) (f : Nat) (e : Nat) (rd : Nat) (C : Nat) (ys : List Value) (ts : List Value) (ns : List Int) (Dt : Addr) (tn : List (Addr × Obj)) =>
  ∀ (nm qual : Str) (ps : Arguments) (body : List Stmt) (sc : Scope) (dV kV doc pm cdv ct oc : Value) (an od : Option Addr) (osl : Array (Option Value)) (hK : (hd.heap_39 w.params).lookup 162 = some ⟨oc, od, .func (fnOf nm qual ps body sc dV kV doc pm an cdv ct), osl⟩) (X : (hd.heap_39 w.params).In g) (T : Top p loose mean mg mb g) (hh : A.handled = none) (hroom : A.depth + 60 < recursionLimit) (hA : AtC g L f e rd C ys ns Dt ts tn s.heap) (hL : 159 < L) (hun : ∀ env, (A.deeper env).units + 64 < cLine) (hR : RingOk (ringL ns)) (hMD : ∀ k, k < (ringL ns).length → mailL (ringL ns) ns (turnI (ringL ns).length k) = dueL (ringL ns) ns (turnI (ringL ns).length k)) (hnext : ∀ h' tk Dm l, AtD g L f e rd C ys ns Dt ts tn Dm l h' → wpAny (model PySem.Challenge.rw_rs0108_01.row.prog w) (A.deeper (envOfC nm sc L fa (.ref 161))) (execs (body.drop 11) (envOfC nm sc L fa (.ref 161))) Q E { s with heap := h', toks := tk }), wpAny (model PySem.Challenge.rw_rs0108_01.row.prog w) (A.deeper (envOfC nm sc L fa (.ref 161))) (execs (body.drop 9) (envOfC nm sc L fa (.ref 161))) Q E s)
    v.1 v.2.1 v.2.2.1 v.2.2.2.1 v.2.2.2.2.1 v.2.2.2.2.2.1 v.2.2.2.2.2.2.1 v.2.2.2.2.2.2.2.1 v.2.2.2.2.2.2.2.2.1 v.2.2.2.2.2.2.2.2.2.1 v.2.2.2.2.2.2.2.2.2.2.1 v.2.2.2.2.2.2.2.2.2.2.2.1 v.2.2.2.2.2.2.2.2.2.2.2.2.1 v.2.2.2.2.2.2.2.2.2.2.2.2.2.1 v.2.2.2.2.2.2.2.2.2.2.2.2.2.2.1 v.2.2.2.2.2.2.2.2.2.2.2.2.2.2.2.1 v.2.2.2.2.2.2.2.2.2.2.2.2.2.2.2.2.1 v.2.2.2.2.2.2.2.2.2.2.2.2.2.2.2.2.2.1 v.2.2.2.2.2.2.2.2.2.2.2.2.2.2.2.2.2.2.1 v.2.2.2.2.2.2.2.2.2.2.2.2.2.2.2.2.2.2.2.1 v.2.2.2.2.2.2.2.2.2.2.2.2.2.2.2.2.2.2.2.2.1 v.2.2.2.2.2.2.2.2.2.2.2.2.2.2.2.2.2.2.2.2.2
@[irreducible] noncomputable def v0 : V := @Classical.epsilon V ⟨(0, aW, callerA, {}, PySem.Challenge.rw_rs0108_01.row.prog, [], fun _ => none, fun _ => none, fun _ => none, {}, 0, fun _ _ => True, fun _ _ => True, 0, 0, 0, 0, [], [], [], 0, [])⟩ fun v => ¬ P v
noncomputable def fa : Addr := v0.1
noncomputable def w : World := v0.2.1
noncomputable def A : Around := v0.2.2.1
noncomputable def s : Shared := v0.2.2.2.1
noncomputable def p : Program := v0.2.2.2.2.1
noncomputable def loose : List Str := v0.2.2.2.2.2.1
noncomputable def mean : ExcName → Option Value := v0.2.2.2.2.2.2.1
noncomputable def mg : Str → Option Value := v0.2.2.2.2.2.2.2.1
noncomputable def mb : Str → Option Value := v0.2.2.2.2.2.2.2.2.1
noncomputable def g : Heap := v0.2.2.2.2.2.2.2.2.2.1
noncomputable def L : Nat := v0.2.2.2.2.2.2.2.2.2.2.1
noncomputable def E : Value → Shared → Prop := v0.2.2.2.2.2.2.2.2.2.2.2.1
noncomputable def Q : Flow → Shared → Prop := v0.2.2.2.2.2.2.2.2.2.2.2.2.1
noncomputable def f : Nat := v0.2.2.2.2.2.2.2.2.2.2.2.2.2.1
noncomputable def e : Nat := v0.2.2.2.2.2.2.2.2.2.2.2.2.2.2.1
noncomputable def rd : Nat := v0.2.2.2.2.2.2.2.2.2.2.2.2.2.2.2.1
noncomputable def C : Nat := v0.2.2.2.2.2.2.2.2.2.2.2.2.2.2.2.2.1
noncomputable def ys : List Value := v0.2.2.2.2.2.2.2.2.2.2.2.2.2.2.2.2.2.1
noncomputable def ts : List Value := v0.2.2.2.2.2.2.2.2.2.2.2.2.2.2.2.2.2.2.1
noncomputable def ns : List Int := v0.2.2.2.2.2.2.2.2.2.2.2.2.2.2.2.2.2.2.2.1
noncomputable def Dt : Addr := v0.2.2.2.2.2.2.2.2.2.2.2.2.2.2.2.2.2.2.2.2.1
noncomputable def tn : List (Addr × Obj) := v0.2.2.2.2.2.2.2.2.2.2.2.2.2.2.2.2.2.2.2.2.2
set_option maxHeartbeats 8000000 in
theorem main (nm qual : Str) (ps : Arguments) (body : List Stmt) (sc : Scope) (dV kV doc pm cdv ct oc : Value) (an od : Option Addr) (osl : Array (Option Value)) (hK : (hd.heap_39 w.params).lookup 162 = some ⟨oc, od, .func (fnOf nm qual ps body sc dV kV doc pm an cdv ct), osl⟩) (X : (hd.heap_39 w.params).In g) (T : Top p loose mean mg mb g) (hh : A.handled = none) (hroom : A.depth + 60 < recursionLimit) (hA : AtC g L f e rd C ys ns Dt ts tn s.heap) (hL : 159 < L) (hun : ∀ env, (A.deeper env).units + 64 < cLine) (hR : RingOk (ringL ns)) (hMD : ∀ k, k < (ringL ns).length → mailL (ringL ns) ns (turnI (ringL ns).length k) = dueL (ringL ns) ns (turnI (ringL ns).length k)) (hnext : ∀ h' tk Dm l, AtD g L f e rd C ys ns Dt ts tn Dm l h' → wpAny (model PySem.Challenge.rw_rs0108_01.row.prog w) (A.deeper (envOfC nm sc L fa (.ref 161))) (execs (body.drop 11) (envOfC nm sc L fa (.ref 161))) Q E { s with heap := h', toks := tk }) :
    wpAny (model PySem.Challenge.rw_rs0108_01.row.prog w) (A.deeper (envOfC nm sc L fa (.ref 161))) (execs (body.drop 9) (envOfC nm sc L fa (.ref 161))) Q E s := by
  w_top off
  revert hK X
  k_fill
  intro hK X
  refine look_parts hK (by k_is) ?_
  rintro rfl rfl rfl
  clear hK
  obtain ⟨m, tf, te, tr, nn, o3, o4, o5, o6, t4, t5, F, mt, mf, me, mr, N, offt, d3, d4, d5, d6, hys, h11, ht, n1, n2, n3, n4, n5, n6, n7⟩ := hA
  obtain ⟨r, hr⟩ : ∃ r, r = ringL ns := ⟨_, rfl⟩
  unfold AtD at hnext
  rw [← hr] at d4 d5 ht hR hMD hnext
  have F1 := fr_known (k := Str.ofString "turns") F mt
  clear F
  have hr9 := hR.hi
  have hr7 := hR.lo
  have hszt : ts.toArray.size ≤ sizeLine := by
    have : (9 : Nat) ≤ sizeLine := by decide
    rw [List.size_toArray, ht.len]; omega
  dsimp only [List.drop] at hnext ⊢
  refine wp_cut 1 _ ?_
  dsimp only [List.take, List.drop]
  refine wpAny_execs_cons (LCg.Assign_ListComp_U F1 rfl rfl rfl (by decide) rfl (by decide) rfl rfl rfl ?_ (fun _ => rfl))
  repeat' (first | ((with_reducible show wpAny _ _ (compareOp .NotEq (.ref _) (.ref _)) _ _ _); refine ne_strs (News.isList ‹_› (.tail _ (.head _))) (News.isList ‹_› (.head _)) ‹_› ‹_› ‹_› ‹_›) | walk1)
  refine LCg.CompSrc.ledger hh F1 N (.head _) hszt fun g2 => ?_
  refine comp_inv ts.toArray.size (fun i ys' news => news = (Dt, LCg.lst ts) :: (C, listOf ys.toArray nn) :: (L + 1 + 1 + 1 + 1 + 1 + 1, o6) :: (L + 1 + 1 + 1 + 1 + 1, o5) :: (L + 1 + 1 + 1 + 1, o4) :: (L + 1 + 1 + 1, o3) :: (75, tabObj #[]) :: (68, tabObj #[]) :: (159, tabObj #[]) :: tn ∧ ∃ l, ys' = strValues l ∧ l.map (·.1) = (List.range i).map fun k => mkS (mailL r ns (turnI r.length k))) ?_ ?_ _ 0 [] _ (by simp) ⟨rfl, [], rfl, rfl⟩
  · rintro i v I oI Cc oC D m₂ h3 tk3 ys3 news3 hi hv hC3 hm F3 N3 off ne ⟨rfl, l, rfl, hl⟩
    have hi2 : i < r.length := by rw [List.size_toArray, ht.len] at hi; exact hi
    obtain ⟨d, vd, nd, hd1, hd2, hd3⟩ := ht.at' i hi2
    rw [List.getElem?_toArray, hd1] at hv
    cases hv
    repeat' (first | ((with_reducible show wpAny _ _ (compareOp .NotEq (.ref _) (.ref _)) _ _ _); refine ne_strs (News.isList ‹_› (.tail _ (.head _))) (News.isList ‹_› (.head _)) ‹_› ‹_› ‹_› ‹_›) | walk1)
    rename Fr _ _ _ _ => F4
    rename News _ _ _ _ => N4
    refine use_mail F4 N4 (News.isList N4 (by repeat' (first | exact hd2 | apply List.Mem.tail))) hd3 (News.isList N4 (by k_mem)) hys h11 hr9 (fun k hk => turnI_mem (by omega) hk) (by rw [turnI_len]; exact hr9) (hR.ne i hi2) (hR.few i hi2) X T (by show A.depth + 1 + 9 < recursionLimit; omega) hh ?_
    intro h5 tk5 t5' F5 N5
    show LCg.CompEnd _ _ _ _ _ _ _ _ _ _ _ _ _ _
    refine end_same (more := []) F5 N5 off (.inr ⟨_, .head _, rfl, _, rfl⟩) ⟨rfl, l ++ [(_, t5')], sv_snoc, ?_⟩
    rw [List.map_append, hl, List.range_succ, List.map_append]
    rfl
  · rintro ys3 news3 ⟨rfl, l, rfl, hl⟩ Dm h4 tk4 F4 N4 off4
    rw [List.size_toArray, ht.len] at hl
    dsimp only
    repeat' (first | ((with_reducible show wpAny _ _ (compareOp .NotEq (.ref _) (.ref _)) _ _ _); refine ne_strs (News.isList ‹_› (.tail _ (.head _))) (News.isList ‹_› (.head _)) ‹_› ‹_› ‹_› ‹_›) | walk1)
    refine .mk ?_
    refine wp_cut 1 _ ?_
    dsimp only [List.take, List.drop]
    repeat' (first | ((with_reducible show wpAny _ _ (compareOp .NotEq (.ref _) (.ref _)) _ _ _); refine ne_strs (News.isList ‹_› (.tail _ (.head _))) (News.isList ‹_› (.head _)) ‹_› ‹_› ‹_› ‹_›) | walk1)
    refine LCg.CompSrc.ledger hh F4 N4 (.tail _ (.head _)) hszt fun g2 => ?_
    refine comp_inv ts.toArray.size (fun i ys' news => news = (Dm, LCg.lst (strValues l)) :: (Dt, LCg.lst ts) :: (C, listOf ys.toArray nn) :: (L + 1 + 1 + 1 + 1 + 1 + 1, o6) :: (L + 1 + 1 + 1 + 1 + 1, o5) :: (L + 1 + 1 + 1 + 1, o4) :: (L + 1 + 1 + 1, o3) :: (75, tabObj #[]) :: (68, tabObj #[]) :: (159, tabObj #[]) :: tn ∧ ∃ l2, ys' = strValues l2 ∧ l2.map (·.1) = (List.range i).map fun k => mkS (dueL r ns (turnI r.length k))) ?_ ?_ _ 0 [] _ (by simp) ⟨rfl, [], rfl, rfl⟩
    · rintro i v I oI Cc oC D m₂ h3 tk3 ys3 news3 hi hv hC3 hm F3 N3 off ne ⟨rfl, l2, rfl, hl2⟩
      have hi2 : i < r.length := by rw [List.size_toArray, ht.len] at hi; exact hi
      obtain ⟨d, vd, nd, hd1, hd2, hd3⟩ := ht.at' i hi2
      rw [List.getElem?_toArray, hd1] at hv
      cases hv
      repeat' (first | ((with_reducible show wpAny _ _ (compareOp .NotEq (.ref _) (.ref _)) _ _ _); refine ne_strs (News.isList ‹_› (.tail _ (.head _))) (News.isList ‹_› (.head _)) ‹_› ‹_› ‹_› ‹_›) | walk1)
      rename Fr _ _ _ _ => F5
      rename News _ _ _ _ => N5
      refine use_due F5 N5 (News.isList N5 (by repeat' (first | exact hd2 | apply List.Mem.tail))) hd3 (News.isList N5 (by k_mem)) hys h11 hr9 (fun k hk => turnI_mem (by omega) hk) (by rw [turnI_len]; exact hr9) (hR.ne i hi2) X T (by show A.depth + 1 + 9 < recursionLimit; omega) hh ?_
      intro h5 tk5 t5' F5 N5
      show LCg.CompEnd _ _ _ _ _ _ _ _ _ _ _ _ _ _
      refine end_same (more := []) F5 N5 off (.inr ⟨_, .tail _ (.head _), rfl, _, rfl⟩) ⟨rfl, l2 ++ [(_, t5')], sv_snoc, ?_⟩
      rw [List.map_append, hl2, List.range_succ, List.map_append]
      rfl
    · rintro ys3 news3 ⟨rfl, l2, rfl, hl2⟩ D2 h5 tk5 F5 N5 off5
      rw [List.size_toArray, ht.len] at hl2
      have heq : l.map (·.1) = l2.map (·.1) := by
        rw [hl, hl2]
        exact List.map_congr_left fun k hk => by rw [hMD k (List.mem_range.mp hk)]
      have hok : ∀ z ∈ l.map (·.1), PyData.strOk z = true := fun z hz => by
        rw [hl] at hz
        obtain ⟨k, hk, rfl⟩ := List.mem_map.mp hz
        exact mailL_ok r ns _
      have hok2 : ∀ z ∈ l2.map (·.1), PyData.strOk z = true := fun z hz => hok z (by rw [heq]; exact hz)
      have hdec : (!decide (l.map (·.1) = l2.map (·.1))) = false := by rw [decide_eq_true heq]; rfl
      refine ne_strs (News.isList N5 (.tail _ (.head _))) (News.isList N5 (.head _)) hun hok hok2 ?_
      rw [hdec]
      clear hdec hok hok2
      have N6 : News g L h5 ((Dm, LCg.lst (strValues l)) :: (Dt, LCg.lst ts) :: (C, listOf ys.toArray nn) :: (L + 1 + 1 + 1 + 1 + 1 + 1, o6) :: (L + 1 + 1 + 1 + 1 + 1, o5) :: (L + 1 + 1 + 1 + 1, o4) :: (L + 1 + 1 + 1, o3) :: (75, tabObj #[]) :: (68, tabObj #[]) :: (159, tabObj #[]) :: tn) := fun q hq => N5 q (.tail _ hq)
      clear N5 off5
      repeat' (first | ((with_reducible show wpAny _ _ (compareOp .NotEq (.ref _) (.ref _)) _ _ _); refine ne_strs (News.isList ‹_› (.tail _ (.head _))) (News.isList ‹_› (.head _)) ‹_› ‹_› ‹_› ‹_›) | walk1)
      refine .mk ?_
      exact hnext _ _ Dm l ⟨_, _, _, _, _, _, _, _, _, _, _, F5, rfl, rfl, mf, me, mr, N6, off1_mem off4, offt, d3, d4, d5, d6, hys, h11, ht, n1, n2, n3, n4, n5, n6, n7, hl⟩
theorem all (v : V) : P v := byEps (v0 := v0) (by unfold v0; rfl) main v
end ksegD
theorem segD {fa : Addr} {w : World} {A : Around} {s : Shared} {p : Program} {loose : List Str} {mean : ExcName → Option Value} {mg : Str → Option Value} {mb : Str → Option Value} {g : Heap} {L : Nat} {E : Value → Shared → Prop} {Q : Flow → Shared → Prop} {nm qual : Str} {ps : Arguments} {body : List Stmt} {sc : Scope} {dV kV doc pm cdv ct oc : Value} {an od : Option Addr} {osl : Array (Option Value)} {f e rd C : Nat} {ys ts : List Value} {ns : List Int} {Dt : Addr} {tn : List (Addr × Obj)} (hK : (hd.heap_39 w.params).lookup 162 = some ⟨oc, od, .func (fnOf nm qual ps body sc dV kV doc pm an cdv ct), osl⟩) (X : (hd.heap_39 w.params).In g) (T : Top p loose mean mg mb g) (hh : A.handled = none) (hroom : A.depth + 60 < recursionLimit) (hA : AtC g L f e rd C ys ns Dt ts tn s.heap) (hL : 159 < L) (hun : ∀ env, (A.deeper env).units + 64 < cLine) (hR : RingOk (ringL ns)) (hMD : ∀ k, k < (ringL ns).length → mailL (ringL ns) ns (turnI (ringL ns).length k) = dueL (ringL ns) ns (turnI (ringL ns).length k)) (hnext : ∀ h' tk Dm l, AtD g L f e rd C ys ns Dt ts tn Dm l h' → wpAny (model PySem.Challenge.rw_rs0108_01.row.prog w) (A.deeper (envOfC nm sc L fa (.ref 161))) (execs (body.drop 11) (envOfC nm sc L fa (.ref 161))) Q E { s with heap := h', toks := tk }) :
    wpAny (model PySem.Challenge.rw_rs0108_01.row.prog w) (A.deeper (envOfC nm sc L fa (.ref 161))) (execs (body.drop 9) (envOfC nm sc L fa (.ref 161))) Q E s := ksegD.all (fa, w, A, s, p, loose, mean, mg, mb, g, L, E, Q, f, e, rd, C, ys, ts, ns, Dt, tn) nm qual ps body sc dV kV doc pm cdv ct oc an od osl hK X T hh hroom hA hL hun hR hMD hnext
end
end Mine
end
-- part LawE
section
open PySem PySem.W PySem.Calls PyProof.Rows
namespace Mine
theorem mailL_len {r : List Nat} {ns ts : List Int} (hl : ts.length ≤ 9) (h4 : (ts.filter fun k => !isO r k).length ≤ 4) : (mkS (mailL r ns ts)).length ≤ 99999 := by
  have h := (mail_bounds r ns (lastO r ts) ts [] 0 (Nat.le_refl _) (fun c hc => absurd hc List.not_mem_nil)).1
  have h5 : 4 ^ (ts.filter fun k => !isO r k).length ≤ 4 ^ 4 := Nat.pow_le_pow_right (by decide) h4
  have h6 : (0 + 8 * ts.length) * 4 ^ (ts.filter fun k => !isO r k).length ≤ 72 * 4 ^ 4 := Nat.mul_le_mul (by omega) h5
  have h7 : (mailL r ns ts).length ≤ 72 * 4 ^ 4 := Nat.le_trans h h6
  show (mailL r ns ts).toArray.size ≤ 99999
  rw [List.size_toArray]
  omega
theorem subE {a b c d e1 e2 e3 e4 e5 x : Addr × Obj} {tn : List (Addr × Obj)} : ∀ q ∈ a :: b :: c :: x :: d :: e1 :: e2 :: e3 :: e4 :: e5 :: tn, q ∈ a :: x :: b :: c :: d :: e1 :: e2 :: e3 :: e4 :: e5 :: tn := fun _ hq => match hq with
  | .head _ => .head _
  | .tail _ h => .tail _ (mem_move [b, c] h)
section
variable {fa : Addr} {w : World} {A : Around} {s : Shared} {p : Program} {loose : List Str} {mean : ExcName → Option Value} {mg mb : Str → Option Value} {g : Heap} {L : Nat} {E : Value → Shared → Prop} {Q : Flow → Shared → Prop}
theorem use_laid {x : Str} {t : Tok} {m : Str → Option Value} {news : List (Addr × Obj)} {Q : Value → Shared → Prop} (F : Fr g L s.heap m) (N : News g L s.heap news) (hx : x.length ≤ 99999)
    (X : (hd.heap_39 w.params).In g) (T : Top p loose mean mg mb g) (hroom : A.depth + 5 < recursionLimit) (hh : A.handled = none)
    (h : ∀ h' tk t', Fr g L h' m → News g L h' news → Q (.int (laidS x) t') { s with heap := h', toks := tk }) :
    wpAny (model PySem.Challenge.rw_rs0108_01.row.prog w) A (call (.ref 152) [.str x t]) Q E s := by
  refine use_fr F N (laid_spec hx (X.keeps F.keep) (T.keeps F.keep) hroom hh) ?_
  rintro v h' tk F' N' ⟨t', rfl⟩
  exact h h' tk t' F' N'
theorem storeC_any {M : Model} {nm : Str} {sc : Scope} {a : Addr} {ccd : Value} {x : Str} {v : Value} {news : List (Addr × Obj)} {m : Str → Option Value} {c : Addr} {o : Obj} {v₀ : Option Value} {Q : Unit → Shared → Prop} (F : Fr g L s.heap m) (N : News g L s.heap news)
    (hc : (envOfC nm sc L a ccd).cells.lookup x = some c) (hm : (c, o) ∈ news) (hd : o.data = .cell v₀)
    (h : ∀ h' o', Fr g L h' m → (∀ q : Addr × Obj, q = (c, o') ∨ (q ∈ news ∧ q.1 ≠ c) → h'.get? q.1 = some q.2 ∧ q.1 ≠ L ∧ g.get? q.1 = none) → o'.data = .cell (some v) → Q () { s with heap := h' })
    (hk : sc.kind = .function) (hx : (envOfC nm sc L a ccd).scope.names.lookup x = some .cell) : wpAny M A (storeName (envOfC nm sc L a ccd) x v) Q E s := by
  have hmem := N (c, o) hm
  refine wpAny_storeName_cell hk hx hc ⟨o, hmem.1, hd⟩ fun h' hv hs => ?_
  obtain ⟨o', ho', hd'⟩ := hv
  refine h h' o' ⟨F.ns.sameBut hs (Ne.symm hmem.2.1), fun b ob e => (hs.2 b (fun q => ?_)).trans (F.keep b ob e), F.above⟩ ?_ hd'
  · rw [q, hmem.2.2] at e; cases e
  · rintro q (rfl | ⟨hq, hne⟩)
    · exact ⟨ho', hmem.2⟩
    · exact ⟨(hs.2 q.1 hne).trans (N q hq).1, (N q hq).2⟩
/-- a list's index of an int that it holds, for short lists -/
theorem index_short {prog : Program} {l : Addr} {vs : List Value} {ns : List Int} {k : Int} {t : Tok} {Q : Value → Shared → Prop} (hl : s.heap.IsList l vs.toArray) (hi : IntsAre vs ns) (hlen : ns.length ≤ 9) (hk : k ∈ ns)
    (h : Q (.int (ns.idxOf k : Nat) s.toks) { s with toks := s.toks + 1 }) : wpAny (model prog w) A (call (.builtin "list.index") [.ref l, .int k t]) Q E s := by
  obtain ⟨⟨cls, dd, data, sl⟩, ho, hc, n, hd⟩ := id hl
  simp only at hc hd
  subst hc hd
  have hvl := hi.length
  have hx : ns.idxOf k < ns.length := List.idxOf_lt_length_iff.mpr hk
  have hfit : ((ns.idxOf k : Nat) : Int) < 2 ^ 63 - 1 := by omega
  have hin : ns.idxOf k < vs.toArray.size := by rw [List.size_toArray, hvl]; exact hx
  have hat : isInt k vs.toArray[ns.idxOf k] = true := by
    rw [show vs.toArray[ns.idxOf k] = vs[ns.idxOf k] from rfl, isInt_at k hi _ (by omega) hx]
    simpa using List.getElem_idxOf hx
  have hbe : ∀ j (hj : j < vs.toArray.size), j < ns.idxOf k → isInt k vs.toArray[j] = false := fun j hj hlt => by
    rw [show vs.toArray[j] = vs[j]'(by simpa using hj) from rfl, isInt_at k hi j (by simpa using hj) (by omega)]
    exact ne_of_lt_idxOf hlt _
  exact call_meets PySem.F.slot_list_index ⟨_, ho, rfl⟩ PySem.F.entry_list_index (PySem.F.args_list_index_2 _ _)
    (PySem.SeqAt.list_indexAt l vs.toArray n dd sl (.int k t) (isInt k) (ns.idxOf k) hin hfit hat hbe) ⟨ho, fun y hy => (eq_isInt k t hi y (by simpa using hy)).at _ _, h⟩
/-- the dots of the turn k -/
noncomputable def dotI (r : List Nat) (ns : List Int) (k : Nat) : Int := laidS (mkS (mailL r ns (turnI r.length k)))
noncomputable def dotsI (r : List Nat) (ns : List Int) : List Int := (List.range r.length).map (dotI r ns)
/-- the locals behind the best turn -/
structure LocE (m : Str → Option Value) (f e rd : Nat) (Dt : Addr) (top : Int) (st : Nat) (db : Addr) : Prop where
  turns : m (Str.ofString "turns") = some (.ref Dt)
  factor : ∃ t, m (Str.ofString "factor") = some (.int (f : Int) t)
  extra : ∃ t, m (Str.ofString "extra") = some (.int (e : Int) t)
  rounds : ∃ t, m (Str.ofString "rounds") = some (.int (rd : Int) t)
  top : ∃ t, m (Str.ofString "top") = some (.int top t)
  start : ∃ t, m (Str.ofString "start") = some (.int (st : Int) t)
  best : m (Str.ofString "best") = some (.ref db)
/-- what stands in the ledger -/
structure LedE (L : Nat) (C : Nat) (ys : List Value) (ns : List Int) (Dt : Addr) (ts : List Value) (Dd : Addr) (ds : List Value) (o3 o4 o5 o6 : Obj) (tn : List (Addr × Obj)) : Prop where
  d3 : o3.data = .cell (some (.ref C))
  d4 : ∃ t, o4.data = .cell (some (.str (mkS (ringL ns)) t))
  d5 : ∃ t, o5.data = .cell (some (.int ((ringL ns).length : Int) t))
  d6 : o6.data = .cell (some (.ref Dd))
  ys : IntsAre ys ns
  h11 : ns.length = 11
  ht : TurnsL L (ringL ns).length (ringL ns).length ts tn
  ds : IntsAre ds (dotsI (ringL ns) ns)
  c : 75 ≠ C ∧ 68 ≠ C ∧ 159 ≠ C
  dt : 75 ≠ Dt ∧ 68 ≠ Dt ∧ 159 ≠ Dt
  dd : 75 ≠ Dd ∧ 68 ≠ Dd ∧ 159 ≠ Dd
/-- the state behind the best turn -/
noncomputable def AtE (g : Heap) (L : Nat) (f e rd C : Nat) (ys : List Value) (ns : List Int) (Dt : Addr) (ts : List Value) (tn : List (Addr × Obj)) (Dd : Addr) (ds : List Value) (o3 o4 o5 o6 : Obj) (top : Int) (st : Nat) (db : Addr) (h : Heap) : Prop :=
  ∃ m nn, Fr g L h m ∧ LocE m f e rd Dt top st db ∧
    News g L h ((Dd, LCg.lst ds) :: (Dt, LCg.lst ts) :: (C, listOf ys.toArray nn) :: (L + 1 + 1 + 1 + 1 + 1 + 1, o6) :: (L + 1 + 1 + 1 + 1 + 1, o5) :: (L + 1 + 1 + 1 + 1, o4) :: (L + 1 + 1 + 1, o3) :: (75, tabObj #[]) :: (68, tabObj #[]) :: (159, tabObj #[]) :: tn) ∧
    LedE L C ys ns Dt ts Dd ds o3 o4 o5 o6 tn
end
section
namespace ksegE
noncomputable abbrev V := (Addr) × (World) × (Around) × (Shared) × (Program) × (List Str) × (ExcName → Option Value) × (Str → Option Value) × (Str → Option Value) × (Heap) × (Nat) × (Value → Shared → Prop) × (Flow → Shared → Prop) × (Nat) × (Nat) × (Nat) × (Nat) × (List Value) × (List Value) × (List Int) × (Addr) × (List (Addr × Obj)) × (Addr) × (List (Str × Tok))
noncomputable def P (v : V) : Prop :=
  (fun (fa : Addr) (w : World) (A : Around) (s : Shared) (p : Program) (loose : List Str) (mean : ExcName → Option Value) (mg : Str → Option Value) (mb : Str → Option Value) (g : Heap) (L : Nat) (E : Value → Shared → Prop) (Q : Flow → Shared → Prop) (f : Nat) (e : Nat) (rd : Nat) (C : Nat) (ys : List Value) (ts : List Value) (ns : List Int) (Dt : Addr) (tn : List (Addr × Obj)) (Dm : Addr) (l : List (Str × Tok)) =>
  ∀ (nm qual : Str) (ps : Arguments) (body : List Stmt) (sc : Scope) (dV kV doc pm cdv ct oc : Value) (an od : Option Addr) (osl : Array (Option Value)) (hK : (hd.heap_39 w.params).lookup 162 = some ⟨oc, od, .func (fnOf nm qual ps body sc dV kV doc pm an cdv ct), osl⟩) (X : (hd.heap_39 w.params).In g) (T : Top p loose mean mg mb g) (hh : A.handled = none) (hroom : A.depth + 60 < recursionLimit) (hA : AtD g L f e rd C ys ns Dt ts tn Dm l s.heap) (hL : 159 < L) (hR : RingOk (ringL ns)) (hnext : ∀ h' tk Dd ds o3 o4 o5 o6 top st db vb nb, AtE g L f e rd C ys ns Dt ts tn Dd ds o3 o4 o5 o6 top st db h' → top ∈ dotsI (ringL ns) ns → (∀ a ∈ dotsI (ringL ns) ns, a ≤ top) → st = (dotsI (ringL ns) ns).idxOf top → (db, listOf (List.toArray vb) nb) ∈ tn → IntsAre vb (turnI (ringL ns).length st) →
      wpAny (model PySem.Challenge.rw_rs0108_01.row.prog w) (A.deeper (envOfC nm sc L fa (.ref 161))) (execs (body.drop 15) (envOfC nm sc L fa (.ref 161))) Q E { s with heap := h', toks := tk }), wpAny (model PySem.Challenge.rw_rs0108_01.row.prog w) (A.deeper (envOfC nm sc L fa (.ref 161))) (execs (body.drop 11) (envOfC nm sc L fa (.ref 161))) Q E s)
    v.1 v.2.1 v.2.2.1 v.2.2.2.1 v.2.2.2.2.1 v.2.2.2.2.2.1 v.2.2.2.2.2.2.1 v.2.2.2.2.2.2.2.1 v.2.2.2.2.2.2.2.2.1 v.2.2.2.2.2.2.2.2.2.1 v.2.2.2.2.2.2.2.2.2.2.1 v.2.2.2.2.2.2.2.2.2.2.2.1 v.2.2.2.2.2.2.2.2.2.2.2.2.1 v.2.2.2.2.2.2.2.2.2.2.2.2.2.1 v.2.2.2.2.2.2.2.2.2.2.2.2.2.2.1 v.2.2.2.2.2.2.2.2.2.2.2.2.2.2.2.1 v.2.2.2.2.2.2.2.2.2.2.2.2.2.2.2.2.1 v.2.2.2.2.2.2.2.2.2.2.2.2.2.2.2.2.2.1 v.2.2.2.2.2.2.2.2.2.2.2.2.2.2.2.2.2.2.1 v.2.2.2.2.2.2.2.2.2.2.2.2.2.2.2.2.2.2.2.1 v.2.2.2.2.2.2.2.2.2.2.2.2.2.2.2.2.2.2.2.2.1 v.2.2.2.2.2.2.2.2.2.2.2.2.2.2.2.2.2.2.2.2.2.1 v.2.2.2.2.2.2.2.2.2.2.2.2.2.2.2.2.2.2.2.2.2.2.1 v.2.2.2.2.2.2.2.2.2.2.2.2.2.2.2.2.2.2.2.2.2.2.2
@[irreducible] noncomputable def v0 : V := @Classical.epsilon V ⟨(0, aW, callerA, {}, PySem.Challenge.rw_rs0108_01.row.prog, [], fun _ => none, fun _ => none, fun _ => none, {}, 0, fun _ _ => True, fun _ _ => True, 0, 0, 0, 0, [], [], [], 0, [], 0, [])⟩ fun v => ¬ P v
noncomputable def fa : Addr := v0.1
noncomputable def w : World := v0.2.1
noncomputable def A : Around := v0.2.2.1
noncomputable def s : Shared := v0.2.2.2.1
noncomputable def p : Program := v0.2.2.2.2.1
noncomputable def loose : List Str := v0.2.2.2.2.2.1
noncomputable def mean : ExcName → Option Value := v0.2.2.2.2.2.2.1
noncomputable def mg : Str → Option Value := v0.2.2.2.2.2.2.2.1
noncomputable def mb : Str → Option Value := v0.2.2.2.2.2.2.2.2.1
noncomputable def g : Heap := v0.2.2.2.2.2.2.2.2.2.1
noncomputable def L : Nat := v0.2.2.2.2.2.2.2.2.2.2.1
noncomputable def E : Value → Shared → Prop := v0.2.2.2.2.2.2.2.2.2.2.2.1
noncomputable def Q : Flow → Shared → Prop := v0.2.2.2.2.2.2.2.2.2.2.2.2.1
noncomputable def f : Nat := v0.2.2.2.2.2.2.2.2.2.2.2.2.2.1
noncomputable def e : Nat := v0.2.2.2.2.2.2.2.2.2.2.2.2.2.2.1
noncomputable def rd : Nat := v0.2.2.2.2.2.2.2.2.2.2.2.2.2.2.2.1
noncomputable def C : Nat := v0.2.2.2.2.2.2.2.2.2.2.2.2.2.2.2.2.1
noncomputable def ys : List Value := v0.2.2.2.2.2.2.2.2.2.2.2.2.2.2.2.2.2.1
noncomputable def ts : List Value := v0.2.2.2.2.2.2.2.2.2.2.2.2.2.2.2.2.2.2.1
noncomputable def ns : List Int := v0.2.2.2.2.2.2.2.2.2.2.2.2.2.2.2.2.2.2.2.1
noncomputable def Dt : Addr := v0.2.2.2.2.2.2.2.2.2.2.2.2.2.2.2.2.2.2.2.2.1
noncomputable def tn : List (Addr × Obj) := v0.2.2.2.2.2.2.2.2.2.2.2.2.2.2.2.2.2.2.2.2.2.1
noncomputable def Dm : Addr := v0.2.2.2.2.2.2.2.2.2.2.2.2.2.2.2.2.2.2.2.2.2.2.1
noncomputable def l : List (Str × Tok) := v0.2.2.2.2.2.2.2.2.2.2.2.2.2.2.2.2.2.2.2.2.2.2.2
set_option maxHeartbeats 8000000 in
theorem main (nm qual : Str) (ps : Arguments) (body : List Stmt) (sc : Scope) (dV kV doc pm cdv ct oc : Value) (an od : Option Addr) (osl : Array (Option Value)) (hK : (hd.heap_39 w.params).lookup 162 = some ⟨oc, od, .func (fnOf nm qual ps body sc dV kV doc pm an cdv ct), osl⟩) (X : (hd.heap_39 w.params).In g) (T : Top p loose mean mg mb g) (hh : A.handled = none) (hroom : A.depth + 60 < recursionLimit) (hA : AtD g L f e rd C ys ns Dt ts tn Dm l s.heap) (hL : 159 < L) (hR : RingOk (ringL ns)) (hnext : ∀ h' tk Dd ds o3 o4 o5 o6 top st db vb nb, AtE g L f e rd C ys ns Dt ts tn Dd ds o3 o4 o5 o6 top st db h' → top ∈ dotsI (ringL ns) ns → (∀ a ∈ dotsI (ringL ns) ns, a ≤ top) → st = (dotsI (ringL ns) ns).idxOf top → (db, listOf (List.toArray vb) nb) ∈ tn → IntsAre vb (turnI (ringL ns).length st) →
      wpAny (model PySem.Challenge.rw_rs0108_01.row.prog w) (A.deeper (envOfC nm sc L fa (.ref 161))) (execs (body.drop 15) (envOfC nm sc L fa (.ref 161))) Q E { s with heap := h', toks := tk }) :
    wpAny (model PySem.Challenge.rw_rs0108_01.row.prog w) (A.deeper (envOfC nm sc L fa (.ref 161))) (execs (body.drop 11) (envOfC nm sc L fa (.ref 161))) Q E s := by
  w_top off
  revert hK X
  k_fill
  intro hK X
  refine look_parts hK (by k_is) ?_
  rintro rfl rfl rfl
  clear hK
  obtain ⟨m, tf, te, tr, nn, o3, o4, o5, o6, t4, t5, F, mm, mt, mf, me, mr, N, offm, offt, d3, d4, d5, d6, hys, h11, ht, n1, n2, n3, n4, n5, n6, n7, hl⟩ := hA
  obtain ⟨r, hr⟩ : ∃ r, r = ringL ns := ⟨_, rfl⟩
  rw [← hr] at d4 d5 ht hR hl
  have F1 := fr_known (k := Str.ofString "mails") (fr_known (k := Str.ofString "turns") F mt) mm
  clear F
  have hr9 := hR.hi
  have hr7 := hR.lo
  have hll : l.length = r.length := by have := congrArg List.length hl; simpa using this
  have hszl : (strValues l).toArray.size = l.length := by simp [strValues]
  have hszm : (strValues l).toArray.size ≤ sizeLine := by
    have : (9 : Nat) ≤ sizeLine := by decide
    omega
  have off6 := ht.off
  dsimp only [List.drop] at hnext ⊢
  refine wp_cut 1 _ ?_
  dsimp only [List.take, List.drop]
  repeat' (first | ((with_reducible show wpAny _ _ (call (.builtin "list.index") _ _) _ _ _); refine index_short (News.isList ‹_› (.head _)) ‹_› ‹_› ‹_› ?_) | ((with_reducible show wpAny _ _ (call (.builtin "max") _ _) _ _ _); refine max_list_N ‹_› ‹_› ‹_› (News.isList ‹_› (.head _)) ‹_› ‹_› ?_; intro _ _ _ _ _ _ _ _) | with_reducible (show wpAny _ _ (eval (.ListComp ..) _) _ _ _; refine LCg.ListComp_U ‹_› rfl (by decide) rfl (by decide) rfl ?_ (fun _ => rfl)) | walk1)
  refine LCg.CompSrc.ledger hh F1 N (.head _) hszm fun g2 => ?_
  refine comp_inv (strValues l).toArray.size (fun i ys' news => news = (Dm, LCg.lst (strValues l)) :: (Dt, LCg.lst ts) :: (C, listOf ys.toArray nn) :: (L + 1 + 1 + 1 + 1 + 1 + 1, o6) :: (L + 1 + 1 + 1 + 1 + 1, o5) :: (L + 1 + 1 + 1 + 1, o4) :: (L + 1 + 1 + 1, o3) :: (75, tabObj #[]) :: (68, tabObj #[]) :: (159, tabObj #[]) :: tn ∧ IntsAre ys' ((List.range i).map (dotI r ns))) ?_ ?_ _ 0 [] _ (by simp) ⟨rfl, .nil⟩
  · rintro i v I oI Cc oC D m₂ h3 tk3 ys3 news3 hi hv hC3 hm F3 N3 off ne ⟨rfl, hds⟩
    obtain ⟨⟨y, ty⟩, hy, rfl⟩ := strValues_at hv
    have hi2 : i < r.length := by rw [hszl, hll] at hi; exact hi
    have hyy : y = mkS (mailL r ns (turnI r.length i)) := by
      have h1 : (l.map (·.1))[i]? = some y := by rw [List.getElem?_map, hy]; rfl
      rw [hl, List.getElem?_map, List.getElem?_range hi2] at h1
      exact (Option.some.inj h1).symm
    subst hyy
    repeat' (first | ((with_reducible show wpAny _ _ (call (.builtin "list.index") _ _) _ _ _); refine index_short (News.isList ‹_› (.head _)) ‹_› ‹_› ‹_› ?_) | ((with_reducible show wpAny _ _ (call (.builtin "max") _ _) _ _ _); refine max_list_N ‹_› ‹_› ‹_› (News.isList ‹_› (.head _)) ‹_› ‹_› ?_; intro _ _ _ _ _ _ _ _) | with_reducible (show wpAny _ _ (eval (.ListComp ..) _) _ _ _; refine LCg.ListComp_U ‹_› rfl (by decide) rfl (by decide) rfl ?_ (fun _ => rfl)) | walk1)
    rename Fr _ _ _ _ => F4
    rename News _ _ _ _ => N4
    refine use_laid F4 N4 (mailL_len (by rw [turnI_len]; exact hr9) (hR.few i hi2)) X T (by show A.depth + 1 + 5 < recursionLimit; omega) hh ?_
    intro h5 tk5 t5' F5 N5
    show LCg.CompEnd _ _ _ _ _ _ _ _ _ _ _ _ _ _
    refine end_same (more := []) F5 N5 off (.inr ⟨_, .head _, rfl, _, rfl⟩) ⟨rfl, ?_⟩
    rw [List.range_succ, List.map_append]
    exact hds.append (.cons _ _ .nil)
  · rintro ds news3 ⟨rfl, hds⟩ Dd h4 tk4 F4 N4 off4
    rw [hszl, hll] at hds
    dsimp only
    simp only [LCg.Off1] at off4
    obtain ⟨w1, w2, w3, w4, w5, w6, w7, w8, w9, w10, w11⟩ := off4
    have w11' := off1_mem w11
    refine storeC_any (o := o6) F4 N4 rfl (by k_mem) d6 ?_ rfl rfl
    intro h5 o6' F5 N5 d6'
    have N6 : News g L h5 ((Dd, LCg.lst ds) :: (L + 1 + 1 + 1 + 1 + 1 + 1, o6') :: (Dt, LCg.lst ts) :: (C, listOf ys.toArray nn) :: (L + 1 + 1 + 1 + 1 + 1, o5) :: (L + 1 + 1 + 1 + 1, o4) :: (L + 1 + 1 + 1, o3) :: (75, tabObj #[]) :: (68, tabObj #[]) :: (159, tabObj #[]) :: tn) := by
      refine fun q hq => N5 q ?_
      revert q hq
      exact allC (.inr ⟨.head _, Ne.symm w4⟩) (allC (.inl rfl) (allC (.inr ⟨by k_mem, Ne.symm (offt (L + 1 + 1 + 1 + 1 + 1 + 1, o6) (by k_mem))⟩) (allC (.inr ⟨by k_mem, Ne.symm n1⟩) (allC (.inr ⟨by k_mem, neN (by omega)⟩) (allC (.inr ⟨by k_mem, neN (by omega)⟩) (allC (.inr ⟨by k_mem, neN (by omega)⟩) (allC (.inr ⟨by k_mem, neN (by omega)⟩) (allC (.inr ⟨by k_mem, neN (by omega)⟩) (allC (.inr ⟨by k_mem, neN (by omega)⟩) fun q hq => .inr ⟨by repeat' (first | exact hq | apply List.Mem.tail), (off6 q hq).1⟩)))))))))
    clear N5 N4 F4
    repeat' (first | ((with_reducible show wpAny _ _ (call (.builtin "list.index") _ _) _ _ _); refine index_short (News.isList ‹_› (.head _)) ‹_› ‹_› ‹_› ?_) | ((with_reducible show wpAny _ _ (call (.builtin "max") _ _) _ _ _); refine max_list_N ‹_› ‹_› ‹_› (News.isList ‹_› (.head _)) ‹_› ‹_› ?_; intro _ _ _ _ _ _ _ _) | with_reducible (show wpAny _ _ (eval (.ListComp ..) _) _ _ _; refine LCg.ListComp_U ‹_› rfl (by decide) rfl (by decide) rfl ?_ (fun _ => rfl)) | walk1)
    refine .mk ?_
    have hdl : 0 < ((List.range r.length).map (dotI r ns)).length := by rw [List.length_map, List.length_range]; omega
    have hdl9 : ((List.range r.length).map (dotI r ns)).length ≤ 9 := by rw [List.length_map, List.length_range]; omega
    refine wp_cut 2 _ ?_
    dsimp only [List.take, List.drop]
    repeat' (first | ((with_reducible show wpAny _ _ (call (.builtin "list.index") _ _) _ _ _); refine index_short (News.isList ‹_› (.head _)) ‹_› ‹_› ‹_› ?_) | ((with_reducible show wpAny _ _ (call (.builtin "max") _ _) _ _ _); refine max_list_N ‹_› ‹_› ‹_› (News.isList ‹_› (.head _)) ‹_› ‹_› ?_; intro _ _ _ _ _ _ _ _) | with_reducible (show wpAny _ _ (eval (.ListComp ..) _) _ _ _; refine LCg.ListComp_U ‹_› rfl (by decide) rfl (by decide) rfl ?_ (fun _ => rfl)) | walk1)
    refine .mk ?_
    rename (_ ∈ List.map _ _) => hMm
    rename (∀ a : Int, a ∈ List.map _ _ → _) => hMx
    have hst := List.idxOf_lt_length_iff.mpr hMm
    rw [List.length_map, List.length_range] at hst
    obtain ⟨db, vb, nb, eb, hb1, hb2⟩ := ht.at' _ hst
    refine wp_cut 1 _ ?_
    dsimp only [List.take, List.drop]
    repeat' (first | ((with_reducible show wpAny _ _ (call (.builtin "list.index") _ _) _ _ _); refine index_short (News.isList ‹_› (.head _)) ‹_› ‹_› ‹_› ?_) | ((with_reducible show wpAny _ _ (call (.builtin "max") _ _) _ _ _); refine max_list_N ‹_› ‹_› ‹_› (News.isList ‹_› (.head _)) ‹_› ‹_› ?_; intro _ _ _ _ _ _ _ _) | with_reducible (show wpAny _ _ (eval (.ListComp ..) _) _ _ _; refine LCg.ListComp_U ‹_› rfl (by decide) rfl (by decide) rfl ?_ (fun _ => rfl)) | walk1)
    rename News _ _ _ _ => N9
    refine item_list (News.isList N9 (.tail _ (.tail _ (.head _)))) (Int.natCast_nonneg _) (by omega) (by rw [Int.toNat_natCast, List.getElem?_toArray]; exact eb) ?_
    have hMm' := hMm
    have hMx' := hMx
    clear hMm hMx
    repeat' (first | ((with_reducible show wpAny _ _ (call (.builtin "list.index") _ _) _ _ _); refine index_short (News.isList ‹_› (.head _)) ‹_› ‹_› ‹_› ?_) | ((with_reducible show wpAny _ _ (call (.builtin "max") _ _) _ _ _); refine max_list_N ‹_› ‹_› ‹_› (News.isList ‹_› (.head _)) ‹_› ‹_› ?_; intro _ _ _ _ _ _ _ _) | with_reducible (show wpAny _ _ (eval (.ListComp ..) _) _ _ _; refine LCg.ListComp_U ‹_› rfl (by decide) rfl (by decide) rfl ?_ (fun _ => rfl)) | walk1)
    refine .mk ?_
    rename Fr _ _ _ _ => F9
    rename News _ _ _ _ => N9
    subst hr
    exact hnext _ _ Dd ds o3 o4 o5 o6' _ _ db vb nb ⟨_, nn, F9, ⟨rfl, ⟨_, mf⟩, ⟨_, me⟩, ⟨_, mr⟩, ⟨_, rfl⟩, ⟨_, rfl⟩, rfl⟩, fun q hq => N9 q (subE q hq), ⟨d3, ⟨_, d4⟩, ⟨_, d5⟩, d6', hys, h11, ht, hds, ⟨n5, n6, n7⟩, ⟨offt (75, _) (by k_mem), offt (68, _) (by k_mem), offt (159, _) (by k_mem)⟩, ⟨w8, w9, w10⟩⟩⟩ hMm' hMx' rfl hb1 hb2
theorem all (v : V) : P v := byEps (v0 := v0) (by unfold v0; rfl) main v
end ksegE
theorem segE {fa : Addr} {w : World} {A : Around} {s : Shared} {p : Program} {loose : List Str} {mean : ExcName → Option Value} {mg : Str → Option Value} {mb : Str → Option Value} {g : Heap} {L : Nat} {E : Value → Shared → Prop} {Q : Flow → Shared → Prop} {nm qual : Str} {ps : Arguments} {body : List Stmt} {sc : Scope} {dV kV doc pm cdv ct oc : Value} {an od : Option Addr} {osl : Array (Option Value)} {f e rd C : Nat} {ys ts : List Value} {ns : List Int} {Dt : Addr} {tn : List (Addr × Obj)} {Dm : Addr} {l : List (Str × Tok)} (hK : (hd.heap_39 w.params).lookup 162 = some ⟨oc, od, .func (fnOf nm qual ps body sc dV kV doc pm an cdv ct), osl⟩) (X : (hd.heap_39 w.params).In g) (T : Top p loose mean mg mb g) (hh : A.handled = none) (hroom : A.depth + 60 < recursionLimit) (hA : AtD g L f e rd C ys ns Dt ts tn Dm l s.heap) (hL : 159 < L) (hR : RingOk (ringL ns)) (hnext : ∀ h' tk Dd ds o3 o4 o5 o6 top st db vb nb, AtE g L f e rd C ys ns Dt ts tn Dd ds o3 o4 o5 o6 top st db h' → top ∈ dotsI (ringL ns) ns → (∀ a ∈ dotsI (ringL ns) ns, a ≤ top) → st = (dotsI (ringL ns) ns).idxOf top → (db, listOf (List.toArray vb) nb) ∈ tn → IntsAre vb (turnI (ringL ns).length st) →
      wpAny (model PySem.Challenge.rw_rs0108_01.row.prog w) (A.deeper (envOfC nm sc L fa (.ref 161))) (execs (body.drop 15) (envOfC nm sc L fa (.ref 161))) Q E { s with heap := h', toks := tk }) :
    wpAny (model PySem.Challenge.rw_rs0108_01.row.prog w) (A.deeper (envOfC nm sc L fa (.ref 161))) (execs (body.drop 11) (envOfC nm sc L fa (.ref 161))) Q E s := ksegE.all (fa, w, A, s, p, loose, mean, mg, mb, g, L, E, Q, f, e, rd, C, ys, ts, ns, Dt, tn, Dm, l) nm qual ps body sc dV kV doc pm cdv ct oc an od osl hK X T hh hroom hA hL hR hnext
end
end Mine
end
-- part LawF
section
open PySem PySem.W PySem.Calls PyProof.Rows
namespace Mine
section
variable {fa : Addr} {w : World} {A : Around} {s : Shared} {p : Program} {loose : List Str} {mean : ExcName → Option Value} {mg mb : Str → Option Value} {g : Heap} {L : Nat} {E : Value → Shared → Prop} {Q : Flow → Shared → Prop}
/-- what the loop keeps -/
noncomputable def AtK (g : Heap) (L : Nat) (f e rd C nn : Nat) (ys : List Value) (Dt : Addr) (ts : List Value) (tn : List (Addr × Obj)) (Dd : Addr) (ds : List Value) (o3 o4 o5 o6 : Obj) (top : Int) (st : Nat) (db : Addr) (m : Str → Option Value) (news : List (Addr × Obj)) : Prop :=
  ∃ p1 p2 tl, news = (75, tabObj p2) :: (68, tabObj p1) :: (Dd, LCg.lst ds) :: (Dt, LCg.lst ts) :: (C, listOf ys.toArray nn) :: (L + 1 + 1 + 1 + 1 + 1 + 1, o6) :: (L + 1 + 1 + 1 + 1 + 1, o5) :: (L + 1 + 1 + 1 + 1, o4) :: (L + 1 + 1 + 1, o3) :: (159, tabObj #[]) :: tl ∧
    LocE m f e rd Dt top st db ∧ TN68 g tl p1 ∧ TN75 g tl p2 ∧ (∀ q ∈ tn, q ∈ tl) ∧ ∀ q ∈ tl, q.1 ≠ 75 ∧ q.1 ≠ 68 ∧ q.1 ≠ 159
theorem dots_at {news : List (Addr × Obj)} {Dd : Addr} {ds : List Value} {r : List Nat} {ns : List Int} {i : Nat} {u : Tok} {value slice : Expr} {Q : Value → Shared → Prop} (N : News g L s.heap news) (hm : (Dd, LCg.lst ds) ∈ news) (hds : IntsAre ds (dotsI r ns)) (hi : i < r.length) (h9 : r.length ≤ 9)
    (h : ∀ t', Q (.int (dotI r ns i) t') s)
    (hs : subscripted slice false (.ref Dd) (.int (i : Int) u) = operate [.ref Dd, .int (i : Int) u] (getItem (.ref Dd) (.int (i : Int) u)) := by with_unfolding_all rfl) (hg : ∀ r, letTemporaryGo value (.ref Dd) r = pure () := by intro _; with_unfolding_all rfl) :
    wpAny (model PySem.Challenge.rw_rs0108_01.row.prog w) A (subscriptTail value slice (.ref Dd) (.int (i : Int) u)) Q E s := by
  have hl : (dotsI r ns).length = r.length := by simp [dotsI]
  have hi1 : i < ds.length := by rw [hds.length, hl]; exact hi
  have hx := isInt_at (dotI r ns i) hds i hi1 (by omega)
  have he : (dotsI r ns)[i]'(by omega) = dotI r ns i := by simp [dotsI]
  rw [he] at hx
  have hx2 : isInt (dotI r ns i) ds[i] = true := by rw [hx]; simp
  obtain ⟨t', ht'⟩ : ∃ t', ds[i] = .int (dotI r ns i) t' := by
    revert hx2
    generalize ds[i] = v
    intro hx2
    cases v <;> simp [isInt] at hx2
    subst hx2
    exact ⟨_, rfl⟩
  exact item_list (News.isList N hm) (Int.natCast_nonneg _) (by omega) (by rw [Int.toNat_natCast, List.getElem?_toArray, List.getElem?_eq_getElem hi1, ht']) (h t') hs hg
end
section
namespace ksegF
noncomputable abbrev V := (Addr) × (World) × (Around) × (Shared) × (Program) × (List Str) × (ExcName → Option Value) × (Str → Option Value) × (Str → Option Value) × (Heap) × (Nat) × (Value → Shared → Prop) × (Flow → Shared → Prop) × (Nat) × (Nat) × (Nat) × (Nat) × (List Value) × (List Value) × (List Int) × (Addr) × (List (Addr × Obj)) × (Addr) × (List Value) × (Obj) × (Obj) × (Obj) × (Obj) × (Int) × (Nat) × (Addr)
noncomputable def P (v : V) : Prop :=
  (fun (fa : Addr) (w : World) (A : Around) (s : Shared) (p : Program) (loose : List Str) (mean : ExcName → Option Value) (mg : Str → Option Value) (mb : Str → Option Value) (g : Heap) (L : Nat) (E : Value → Shared → Prop) (Q : Flow → Shared → Prop) (f : Nat) (e : Nat) (rd : Nat) (C : Nat) (ys : List Value) (ts : List Value) (ns : List Int) (Dt : Addr) (tn : List (Addr × Obj)) (Dd : Addr) (ds : List Value) (o3 : Obj) (o4 : Obj) (o5 : Obj) (o6 : Obj) (top : Int) (st : Nat) (db : Addr) =>
  ∀ (nm qual : Str) (ps : Arguments) (body : List Stmt) (sc : Scope) (dV kV doc pm cdv ct oc : Value) (an od : Option Addr) (osl : Array (Option Value)) (hK : (hd.heap_39 w.params).lookup 162 = some ⟨oc, od, .func (fnOf nm qual ps body sc dV kV doc pm an cdv ct), osl⟩) (X : (hd.heap_39 w.params).In g) (T : Top p loose mean mg mb g) (hh : A.handled = none) (hroom : A.depth + 60 < recursionLimit) (hA : AtE g L f e rd C ys ns Dt ts tn Dd ds o3 o4 o5 o6 top st db s.heap) (hL : 159 < L) (hR : RingOk (ringL ns)) (hG : AllBare s.gens) (h4 : ∀ k, k < (ringL ns).length → (ringL ns).getD k 0 = 40 ∨ (ringL ns).getD k 0 = 41) (hck : ∀ k, k < (ringL ns).length → (ringL ns).getD k 0 = 40 → chk (mkS (textL (ringL ns) ns ((turnI (ringL ns).length k).drop 1))) = decide (dotI (ringL ns) ns k = top)) (tgt it : Expr) (bd more : List Stmt) (pp : Pos) (hbody : body.drop 15 = .For tgt it bd [] pp :: more) (hrest : ∀ (R : Result → Shared → Prop) (s₀ : Shared) (I : Addr) (i : Nat) (t : Tok) (m₂ : Str → Option Value) (h : Heap) (tk : Nat) (gs : Array GenState) (nn : Nat) (p1 p2 : Array Value) (tl own : List (Addr × Obj)), AllBare gs → i < (ringL ns).length → m₂ (Str.ofString "k") = some (.int (i : Int) t) → LocE m₂ f e rd Dt top st db →
      TN68 g tl p1 → TN75 g tl p2 → (∀ q ∈ tn, q ∈ tl) → (∀ q ∈ tl, q.1 ≠ 75 ∧ q.1 ≠ 68 ∧ q.1 ≠ 159) → (∀ q ∈ own, q.1 = I) → (∃ o, (I, o) ∈ own ∧ NoC o) → (∀ q ∈ (75, tabObj p2) :: (68, tabObj p1) :: (Dd, LCg.lst ds) :: (Dt, LCg.lst ts) :: (C, listOf ys.toArray nn) :: (L + 1 + 1 + 1 + 1 + 1 + 1, o6) :: (L + 1 + 1 + 1 + 1 + 1, o5) :: (L + 1 + 1 + 1 + 1, o4) :: (L + 1 + 1 + 1, o3) :: (159, tabObj #[]) :: tl, q.1 ≠ I) → I ≠ 75 → I ≠ 68 → LedE L C ys ns Dt ts Dd ds o3 o4 o5 o6 tn → Fr g L h m₂ →
      News g L h ((75, tabObj p2) :: (68, tabObj p1) :: (Dd, LCg.lst ds) :: (Dt, LCg.lst ts) :: (C, listOf ys.toArray nn) :: (L + 1 + 1 + 1 + 1 + 1 + 1, o6) :: (L + 1 + 1 + 1 + 1 + 1, o5) :: (L + 1 + 1 + 1 + 1, o4) :: (L + 1 + 1 + 1, o3) :: (159, tabObj #[]) :: (tl ++ own)) →
      wpAny (model PySem.Challenge.rw_rs0108_01.row.prog w) (A.deeper (envOfC nm sc L fa (.ref 161))) (execs (bd.drop 1) (envOfC nm sc L fa (.ref 161))) (AfterW g L [I] own AllBare s₀ (AtK g L f e rd C nn ys Dt ts tn Dd ds o3 o4 o5 o6 top st db) R) (fun _ _ => False) { s₀ with heap := h, toks := tk, gens := gs }) (hnext : ∀ (m₂ : Str → Option Value) (h : Heap) (tk : Nat) (gs : Array GenState) (nn : Nat) (p1 p2 : Array Value) (tl : List (Addr × Obj)), AllBare gs → LocE m₂ f e rd Dt top st db →
      TN68 g tl p1 → TN75 g tl p2 → (∀ q ∈ tn, q ∈ tl) → (∀ q ∈ tl, q.1 ≠ 75 ∧ q.1 ≠ 68 ∧ q.1 ≠ 159) → LedE L C ys ns Dt ts Dd ds o3 o4 o5 o6 tn → Fr g L h m₂ →
      News g L h ((75, tabObj p2) :: (68, tabObj p1) :: (Dd, LCg.lst ds) :: (Dt, LCg.lst ts) :: (C, listOf ys.toArray nn) :: (L + 1 + 1 + 1 + 1 + 1 + 1, o6) :: (L + 1 + 1 + 1 + 1 + 1, o5) :: (L + 1 + 1 + 1 + 1, o4) :: (L + 1 + 1 + 1, o3) :: (159, tabObj #[]) :: tl) →
      wpAny (model PySem.Challenge.rw_rs0108_01.row.prog w) (A.deeper (envOfC nm sc L fa (.ref 161))) (execs (body.drop 16) (envOfC nm sc L fa (.ref 161))) Q E { s with heap := h, toks := tk, gens := gs }), wpAny (model PySem.Challenge.rw_rs0108_01.row.prog w) (A.deeper (envOfC nm sc L fa (.ref 161))) (execs (body.drop 15) (envOfC nm sc L fa (.ref 161))) Q E s)
    v.1 v.2.1 v.2.2.1 v.2.2.2.1 v.2.2.2.2.1 v.2.2.2.2.2.1 v.2.2.2.2.2.2.1 v.2.2.2.2.2.2.2.1 v.2.2.2.2.2.2.2.2.1 v.2.2.2.2.2.2.2.2.2.1 v.2.2.2.2.2.2.2.2.2.2.1 v.2.2.2.2.2.2.2.2.2.2.2.1 v.2.2.2.2.2.2.2.2.2.2.2.2.1 v.2.2.2.2.2.2.2.2.2.2.2.2.2.1 v.2.2.2.2.2.2.2.2.2.2.2.2.2.2.1 v.2.2.2.2.2.2.2.2.2.2.2.2.2.2.2.1 v.2.2.2.2.2.2.2.2.2.2.2.2.2.2.2.2.1 v.2.2.2.2.2.2.2.2.2.2.2.2.2.2.2.2.2.1 v.2.2.2.2.2.2.2.2.2.2.2.2.2.2.2.2.2.2.1 v.2.2.2.2.2.2.2.2.2.2.2.2.2.2.2.2.2.2.2.1 v.2.2.2.2.2.2.2.2.2.2.2.2.2.2.2.2.2.2.2.2.1 v.2.2.2.2.2.2.2.2.2.2.2.2.2.2.2.2.2.2.2.2.2.1 v.2.2.2.2.2.2.2.2.2.2.2.2.2.2.2.2.2.2.2.2.2.2.1 v.2.2.2.2.2.2.2.2.2.2.2.2.2.2.2.2.2.2.2.2.2.2.2.1 v.2.2.2.2.2.2.2.2.2.2.2.2.2.2.2.2.2.2.2.2.2.2.2.2.1 v.2.2.2.2.2.2.2.2.2.2.2.2.2.2.2.2.2.2.2.2.2.2.2.2.2.1 v.2.2.2.2.2.2.2.2.2.2.2.2.2.2.2.2.2.2.2.2.2.2.2.2.2.2.1 v.2.2.2.2.2.2.2.2.2.2.2.2.2.2.2.2.2.2.2.2.2.2.2.2.2.2.2.1 v.2.2.2.2.2.2.2.2.2.2.2.2.2.2.2.2.2.2.2.2.2.2.2.2.2.2.2.2.1 v.2.2.2.2.2.2.2.2.2.2.2.2.2.2.2.2.2.2.2.2.2.2.2.2.2.2.2.2.2.1 v.2.2.2.2.2.2.2.2.2.2.2.2.2.2.2.2.2.2.2.2.2.2.2.2.2.2.2.2.2.2
@[irreducible] noncomputable def v0 : V := @Classical.epsilon V ⟨(0, aW, callerA, {}, PySem.Challenge.rw_rs0108_01.row.prog, [], fun _ => none, fun _ => none, fun _ => none, {}, 0, fun _ _ => True, fun _ _ => True, 0, 0, 0, 0, [], [], [], 0, [], 0, [], { cls := .none, data := .cell none }, { cls := .none, data := .cell none }, { cls := .none, data := .cell none }, { cls := .none, data := .cell none }, 0, 0, 0)⟩ fun v => ¬ P v
noncomputable def fa : Addr := v0.1
noncomputable def w : World := v0.2.1
noncomputable def A : Around := v0.2.2.1
noncomputable def s : Shared := v0.2.2.2.1
noncomputable def p : Program := v0.2.2.2.2.1
noncomputable def loose : List Str := v0.2.2.2.2.2.1
noncomputable def mean : ExcName → Option Value := v0.2.2.2.2.2.2.1
noncomputable def mg : Str → Option Value := v0.2.2.2.2.2.2.2.1
noncomputable def mb : Str → Option Value := v0.2.2.2.2.2.2.2.2.1
noncomputable def g : Heap := v0.2.2.2.2.2.2.2.2.2.1
noncomputable def L : Nat := v0.2.2.2.2.2.2.2.2.2.2.1
noncomputable def E : Value → Shared → Prop := v0.2.2.2.2.2.2.2.2.2.2.2.1
noncomputable def Q : Flow → Shared → Prop := v0.2.2.2.2.2.2.2.2.2.2.2.2.1
noncomputable def f : Nat := v0.2.2.2.2.2.2.2.2.2.2.2.2.2.1
noncomputable def e : Nat := v0.2.2.2.2.2.2.2.2.2.2.2.2.2.2.1
noncomputable def rd : Nat := v0.2.2.2.2.2.2.2.2.2.2.2.2.2.2.2.1
noncomputable def C : Nat := v0.2.2.2.2.2.2.2.2.2.2.2.2.2.2.2.2.1
noncomputable def ys : List Value := v0.2.2.2.2.2.2.2.2.2.2.2.2.2.2.2.2.2.1
noncomputable def ts : List Value := v0.2.2.2.2.2.2.2.2.2.2.2.2.2.2.2.2.2.2.1
noncomputable def ns : List Int := v0.2.2.2.2.2.2.2.2.2.2.2.2.2.2.2.2.2.2.2.1
noncomputable def Dt : Addr := v0.2.2.2.2.2.2.2.2.2.2.2.2.2.2.2.2.2.2.2.2.1
noncomputable def tn : List (Addr × Obj) := v0.2.2.2.2.2.2.2.2.2.2.2.2.2.2.2.2.2.2.2.2.2.1
noncomputable def Dd : Addr := v0.2.2.2.2.2.2.2.2.2.2.2.2.2.2.2.2.2.2.2.2.2.2.1
noncomputable def ds : List Value := v0.2.2.2.2.2.2.2.2.2.2.2.2.2.2.2.2.2.2.2.2.2.2.2.1
noncomputable def o3 : Obj := v0.2.2.2.2.2.2.2.2.2.2.2.2.2.2.2.2.2.2.2.2.2.2.2.2.1
noncomputable def o4 : Obj := v0.2.2.2.2.2.2.2.2.2.2.2.2.2.2.2.2.2.2.2.2.2.2.2.2.2.1
noncomputable def o5 : Obj := v0.2.2.2.2.2.2.2.2.2.2.2.2.2.2.2.2.2.2.2.2.2.2.2.2.2.2.1
noncomputable def o6 : Obj := v0.2.2.2.2.2.2.2.2.2.2.2.2.2.2.2.2.2.2.2.2.2.2.2.2.2.2.2.1
noncomputable def top : Int := v0.2.2.2.2.2.2.2.2.2.2.2.2.2.2.2.2.2.2.2.2.2.2.2.2.2.2.2.2.1
noncomputable def st : Nat := v0.2.2.2.2.2.2.2.2.2.2.2.2.2.2.2.2.2.2.2.2.2.2.2.2.2.2.2.2.2.1
noncomputable def db : Addr := v0.2.2.2.2.2.2.2.2.2.2.2.2.2.2.2.2.2.2.2.2.2.2.2.2.2.2.2.2.2.2
set_option maxHeartbeats 8000000 in
theorem main (nm qual : Str) (ps : Arguments) (body : List Stmt) (sc : Scope) (dV kV doc pm cdv ct oc : Value) (an od : Option Addr) (osl : Array (Option Value)) (hK : (hd.heap_39 w.params).lookup 162 = some ⟨oc, od, .func (fnOf nm qual ps body sc dV kV doc pm an cdv ct), osl⟩) (X : (hd.heap_39 w.params).In g) (T : Top p loose mean mg mb g) (hh : A.handled = none) (hroom : A.depth + 60 < recursionLimit) (hA : AtE g L f e rd C ys ns Dt ts tn Dd ds o3 o4 o5 o6 top st db s.heap) (hL : 159 < L) (hR : RingOk (ringL ns)) (hG : AllBare s.gens) (h4 : ∀ k, k < (ringL ns).length → (ringL ns).getD k 0 = 40 ∨ (ringL ns).getD k 0 = 41) (hck : ∀ k, k < (ringL ns).length → (ringL ns).getD k 0 = 40 → chk (mkS (textL (ringL ns) ns ((turnI (ringL ns).length k).drop 1))) = decide (dotI (ringL ns) ns k = top)) (tgt it : Expr) (bd more : List Stmt) (pp : Pos) (hbody : body.drop 15 = .For tgt it bd [] pp :: more) (hrest : ∀ (R : Result → Shared → Prop) (s₀ : Shared) (I : Addr) (i : Nat) (t : Tok) (m₂ : Str → Option Value) (h : Heap) (tk : Nat) (gs : Array GenState) (nn : Nat) (p1 p2 : Array Value) (tl own : List (Addr × Obj)), AllBare gs → i < (ringL ns).length → m₂ (Str.ofString "k") = some (.int (i : Int) t) → LocE m₂ f e rd Dt top st db →
      TN68 g tl p1 → TN75 g tl p2 → (∀ q ∈ tn, q ∈ tl) → (∀ q ∈ tl, q.1 ≠ 75 ∧ q.1 ≠ 68 ∧ q.1 ≠ 159) → (∀ q ∈ own, q.1 = I) → (∃ o, (I, o) ∈ own ∧ NoC o) → (∀ q ∈ (75, tabObj p2) :: (68, tabObj p1) :: (Dd, LCg.lst ds) :: (Dt, LCg.lst ts) :: (C, listOf ys.toArray nn) :: (L + 1 + 1 + 1 + 1 + 1 + 1, o6) :: (L + 1 + 1 + 1 + 1 + 1, o5) :: (L + 1 + 1 + 1 + 1, o4) :: (L + 1 + 1 + 1, o3) :: (159, tabObj #[]) :: tl, q.1 ≠ I) → I ≠ 75 → I ≠ 68 → LedE L C ys ns Dt ts Dd ds o3 o4 o5 o6 tn → Fr g L h m₂ →
      News g L h ((75, tabObj p2) :: (68, tabObj p1) :: (Dd, LCg.lst ds) :: (Dt, LCg.lst ts) :: (C, listOf ys.toArray nn) :: (L + 1 + 1 + 1 + 1 + 1 + 1, o6) :: (L + 1 + 1 + 1 + 1 + 1, o5) :: (L + 1 + 1 + 1 + 1, o4) :: (L + 1 + 1 + 1, o3) :: (159, tabObj #[]) :: (tl ++ own)) →
      wpAny (model PySem.Challenge.rw_rs0108_01.row.prog w) (A.deeper (envOfC nm sc L fa (.ref 161))) (execs (bd.drop 1) (envOfC nm sc L fa (.ref 161))) (AfterW g L [I] own AllBare s₀ (AtK g L f e rd C nn ys Dt ts tn Dd ds o3 o4 o5 o6 top st db) R) (fun _ _ => False) { s₀ with heap := h, toks := tk, gens := gs }) (hnext : ∀ (m₂ : Str → Option Value) (h : Heap) (tk : Nat) (gs : Array GenState) (nn : Nat) (p1 p2 : Array Value) (tl : List (Addr × Obj)), AllBare gs → LocE m₂ f e rd Dt top st db →
      TN68 g tl p1 → TN75 g tl p2 → (∀ q ∈ tn, q ∈ tl) → (∀ q ∈ tl, q.1 ≠ 75 ∧ q.1 ≠ 68 ∧ q.1 ≠ 159) → LedE L C ys ns Dt ts Dd ds o3 o4 o5 o6 tn → Fr g L h m₂ →
      News g L h ((75, tabObj p2) :: (68, tabObj p1) :: (Dd, LCg.lst ds) :: (Dt, LCg.lst ts) :: (C, listOf ys.toArray nn) :: (L + 1 + 1 + 1 + 1 + 1 + 1, o6) :: (L + 1 + 1 + 1 + 1 + 1, o5) :: (L + 1 + 1 + 1 + 1, o4) :: (L + 1 + 1 + 1, o3) :: (159, tabObj #[]) :: tl) →
      wpAny (model PySem.Challenge.rw_rs0108_01.row.prog w) (A.deeper (envOfC nm sc L fa (.ref 161))) (execs (body.drop 16) (envOfC nm sc L fa (.ref 161))) Q E { s with heap := h, toks := tk, gens := gs }) :
    wpAny (model PySem.Challenge.rw_rs0108_01.row.prog w) (A.deeper (envOfC nm sc L fa (.ref 161))) (execs (body.drop 15) (envOfC nm sc L fa (.ref 161))) Q E s := by
  w_top off
  revert hK X
  k_fill
  intro hK X
  refine look_parts hK (by k_is) ?_
  rintro rfl rfl rfl
  clear hK
  obtain ⟨m, nn, F, lo, N, le⟩ := hA
  obtain ⟨d3, ⟨t4, d4⟩, ⟨t5, d5⟩, d6, hys, h11, ht, hds, n5, n6, n7⟩ := le
  obtain ⟨r, hr⟩ : ∃ r, r = ringL ns := ⟨_, rfl⟩
  rw [← hr] at d4 d5 ht hR hds h4 hck
  have hr9 := hR.hi
  have hr7 := hR.lo
  obtain ⟨r1, r2, r3⟩ := small9 hr9
  have off6 := ht.off
  cases hbody
  have hle : LedE L C ys ns Dt ts Dd ds o3 o4 o5 o6 tn := by subst hr; exact ⟨d3, ⟨_, d4⟩, ⟨_, d5⟩, d6, hys, h11, ht, hds, n5, n6, n7⟩
  rw [← hr] at hrest
  dsimp only [List.drop] at hrest hnext ⊢
  refine wpAny_execs_cons (wpAny_For ?_ (fun _ => rfl))
  repeat' (first | ((with_reducible show wpAny _ _ (subscriptTail (.Name ..) (.Name ..) (.ref _) (.int _ _)) _ _ _); refine dots_at ‹_› (by k_mem) ‹_› ‹_› ‹_› ?_; intro _) | walk1)
  rename Fr _ _ _ _ => F2
  rename News _ _ _ _ => N2
  rename IsRange _ _ _ _ _ _ _ _ => hr2
  rename (∀ (b : Addr) (o : Obj), _ → _) => hk2
  clear hk2
  refine forRange (L := L) AllBare hh rfl rfl rfl F2 (news := (75, tabObj #[]) :: (68, tabObj #[]) :: (Dd, LCg.lst ds) :: (Dt, LCg.lst ts) :: (C, listOf ys.toArray nn) :: (L + 1 + 1 + 1 + 1 + 1 + 1, o6) :: (L + 1 + 1 + 1 + 1 + 1, o5) :: (L + 1 + 1 + 1 + 1, o4) :: (L + 1 + 1 + 1, o3) :: (159, tabObj #[]) :: tn) (fun q hq => N2 q ?_) hr2 r1 r2 hG (fun i m news => AtK g L f e rd C nn ys Dt ts tn Dd ds o3 o4 o5 o6 top st db m news) ⟨#[], #[], tn, rfl, lo, .inl rfl, .inl rfl, fun q hq => hq, fun q hq => (off6 q hq).2⟩ ?_ ?_
  · exact mem_swap [_, _] [_, _, _, _, _, _, _] (_ :: _) hq
  · clear F2 N2 hr2 lo
    rintro I i t m₁ news₁ h tk gs own hgs hi ⟨p1, p2, tl, rfl, lo, T1, T2, htn, htl⟩ hnI hoI hIo F3 N3
    obtain ⟨lt, ⟨tf, lf⟩, ⟨te, lx⟩, ⟨tr, lr⟩, ⟨tt, lp⟩, ⟨tst, lst⟩, lb⟩ := lo
    obtain ⟨d, vd, nd, hd1, hd2, hd3⟩ := ht.at' i hi
    have hd4 := htn _ hd2
    have e4 : (mkS [r.getD i 0] = Str.ofString "(" ∧ r.getD i 0 = 40) ∨ mkS [r.getD i 0] = Str.ofString ")" := by
      rcases h4 i hi with q | q
      · exact .inl ⟨by rw [q]; decide +kernel, q⟩
      · exact .inr (by rw [q]; decide +kernel)
    have hI1 := hnI _ (.head _)
    have hI2 := hnI _ (.tail _ (.head _))
    have hfin := fun m₂ h tk gs tm tb hg hm hl hF hN => hrest tm tb I i t m₂ h tk gs nn p1 p2 tl own hg hi hm hl T1 T2 htn htl hoI hIo hnI (Ne.symm hI1) (Ne.symm hI2) hle hF hN
    clear hrest T1 T2 htl hnI hoI hIo hd2 hle hI1 hI2
    rename (Fr g L s.heap m) => Fx
    rename (News g L s.heap _) => Nx
    clear Fx Nx
    dsimp only [List.cons_append] at N3
    have F10 := fr_known (k := Str.ofString "best") (fr_known (k := Str.ofString "start") (fr_known (k := Str.ofString "top") (fr_known (k := Str.ofString "rounds") (fr_known (k := Str.ofString "extra") (fr_known (k := Str.ofString "factor") (fr_known (k := Str.ofString "turns") F3 lt) lf) lx) lr) lp) lst) lb
    clear F3
    refine wp_cut 1 _ ?_
    dsimp only [List.take, List.drop]
    repeat' (first | ((with_reducible show wpAny _ _ (subscriptTail (.Name ..) (.Name ..) (.ref _) (.int _ _)) _ _ _); refine dots_at ‹_› (by k_mem) ‹_› ‹_› ‹_› ?_; intro _) | walk1)
    refine ring_at (Int.natCast_nonneg i) (by omega) hr9 ?_
    intro t' tk'
    rw [Int.toNat_natCast]
    rcases e4 with ⟨e4, e40⟩ | e4 <;> rw [e4]
    · have hck1 := hck i hi e40
      clear hck h4 e4 e40
      repeat' (first | ((with_reducible show wpAny _ _ (subscriptTail (.Name ..) (.Name ..) (.ref _) (.int _ _)) _ _ _); refine dots_at ‹_› (by k_mem) ‹_› ‹_› ‹_› ?_; intro _) | walk1)
      rename Fr _ _ _ _ => F3
      rename News _ _ _ _ => N4
      refine item_list (News.isList N4 (by k_mem)) (Int.natCast_nonneg _) (by omega) (by rw [Int.toNat_natCast, List.getElem?_toArray]; exact hd1) ?_
      have hdl : (turnI r.length i).length = r.length := turnI_len _ _
      repeat' (first | ((with_reducible show wpAny _ _ (subscriptTail (.Name ..) (.Name ..) (.ref _) (.int _ _)) _ _ _); refine dots_at ‹_› (by k_mem) ‹_› ‹_› ‹_› ?_; intro _) | walk1)
      refine kmk_slice_ints F3 N4 (News.isList N4 (by repeat' (first | exact List.mem_append_left _ hd4 | apply List.Mem.tail))) (.int _ _) .none hd3 (slice_ints_from hd3 (by decide) (by rw [hdl]; omega)) rfl ?_ (by with_unfolding_all rfl) (by intro _; with_unfolding_all rfl) (by rw [List.size_toArray, hd3.length, hdl]; exact r3)
      intro D ws h5 F5 N5 hD5 hws _ _
      clear F3 N4
      have hds1 : ∀ k ∈ (turnI r.length i).drop (Int.toNat 1), 0 ≤ k ∧ k < r.length := fun k hk => turnI_mem (by omega) (List.mem_of_mem_drop hk)
      have hdl1 : ((turnI r.length i).drop (Int.toNat 1)).length ≤ 20 := by rw [List.length_drop, hdl]; omega
      repeat' (first | ((with_reducible show wpAny _ _ (subscriptTail (.Name ..) (.Name ..) (.ref _) (.int _ _)) _ _ _); refine dots_at ‹_› (by k_mem) ‹_› ‹_› ‹_› ?_; intro _) | walk1)
      refine use_text F5 N5 (News.isList N5 (.head _)) hws (News.isList N5 (by k_mem)) hys h11 hr9 hds1 hdl1 X T (by show A.depth + 1 + 5 < recursionLimit; omega) hh ?_
      intro h6 tk6 t6 F6 N6
      clear F5 N5
      have hln : (mkS (textL r ns ((turnI r.length i).drop (Int.toNat 1)))).length ≤ 1000 := by
        have := textL_len r ns ((turnI r.length i).drop (Int.toNat 1))
        show (textL _ _ _).toArray.size ≤ _
        rw [List.size_toArray]; omega
      repeat' (first | ((with_reducible show wpAny _ _ (subscriptTail (.Name ..) (.Name ..) (.ref _) (.int _ _)) _ _ _); refine dots_at ‹_› (by k_mem) ‹_› ‹_› ‹_› ?_; intro _) | walk1)
      refine use_chk F6 N6 hln X T (by show A.depth + 1 + 10 < recursionLimit; omega) hh ?_
      intro h7 tk7 gs7 F7 N7 hb7
      have hgs7 := hb7 hgs
      clear F6 N6 hln hds1 hdl1 hb7
      rw [show Int.toNat 1 = 1 from rfl, hck1]
      have N8 := fun q hq => N7 q (.tail _ hq)
      clear N7 hd1 hd3 hd4 hdl hws hD5
      (first | ((with_reducible show wpAny _ _ (subscriptTail (.Name ..) (.Name ..) (.ref _) (.int _ _)) _ _ _); refine dots_at ‹_› (by k_mem) ‹_› ‹_› ‹_› ?_; intro _) | walk1)
      rename Fr _ _ _ _ => F9
      rename News _ _ _ _ => N9
      clear N8
      iterate 9 (first | ((with_reducible show wpAny _ _ (subscriptTail (.Name ..) (.Name ..) (.ref _) (.int _ _)) _ _ _); refine dots_at ‹_› (by k_mem) ‹_› ‹_› ‹_› ?_; intro _) | walk1)
      refine dots_at N9 (by k_mem) hds hi hr9 ?_
      intro t9
      iterate 3 (first | ((with_reducible show wpAny _ _ (subscriptTail (.Name ..) (.Name ..) (.ref _) (.int _ _)) _ _ _); refine dots_at ‹_› (by k_mem) ‹_› ‹_› ‹_› ?_; intro _) | walk1)
      have eb : (decide (dotI r ns i = top) != (dotI r ns i == top)) = false := by
        by_cases q : dotI r ns i = top <;> simp [q]
      rw [eb]
      repeat' (first | ((with_reducible show wpAny _ _ (subscriptTail (.Name ..) (.Name ..) (.ref _) (.int _ _)) _ _ _); refine dots_at ‹_› (by k_mem) ‹_› ‹_› ‹_› ?_; intro _) | walk1)
      refine .mk ?_
      exact hfin _ _ _ _ _ _ hgs7 rfl ⟨rfl, ⟨_, rfl⟩, ⟨_, rfl⟩, ⟨_, rfl⟩, ⟨_, rfl⟩, ⟨_, rfl⟩, rfl⟩ F9 N9
    · repeat' (first | ((with_reducible show wpAny _ _ (subscriptTail (.Name ..) (.Name ..) (.ref _) (.int _ _)) _ _ _); refine dots_at ‹_› (by k_mem) ‹_› ‹_› ‹_› ?_; intro _) | walk1)
      refine .mk ?_
      rename Fr _ _ _ _ => F9
      rename News _ _ _ _ => N9
      exact hfin _ _ _ _ _ _ hgs rfl ⟨rfl, ⟨_, rfl⟩, ⟨_, rfl⟩, ⟨_, rfl⟩, ⟨_, rfl⟩, ⟨_, rfl⟩, rfl⟩ F9 N9
  · rintro h tk gs m' news' hgs F9 N9 ⟨p1, p2, tl, rfl, lo, T1, T2, htn, htl⟩
    exact hnext m' h tk gs nn p1 p2 tl hgs lo T1 T2 htn htl hle F9 N9
theorem all (v : V) : P v := byEps (v0 := v0) (by unfold v0; rfl) main v
end ksegF
theorem segF {fa : Addr} {w : World} {A : Around} {s : Shared} {p : Program} {loose : List Str} {mean : ExcName → Option Value} {mg : Str → Option Value} {mb : Str → Option Value} {g : Heap} {L : Nat} {E : Value → Shared → Prop} {Q : Flow → Shared → Prop} {nm qual : Str} {ps : Arguments} {body : List Stmt} {sc : Scope} {dV kV doc pm cdv ct oc : Value} {an od : Option Addr} {osl : Array (Option Value)} {f e rd C : Nat} {ys ts : List Value} {ns : List Int} {Dt : Addr} {tn : List (Addr × Obj)} {Dd : Addr} {ds : List Value} {o3 o4 o5 o6 : Obj} {top : Int} {st : Nat} {db : Addr} (hK : (hd.heap_39 w.params).lookup 162 = some ⟨oc, od, .func (fnOf nm qual ps body sc dV kV doc pm an cdv ct), osl⟩) (X : (hd.heap_39 w.params).In g) (T : Top p loose mean mg mb g) (hh : A.handled = none) (hroom : A.depth + 60 < recursionLimit) (hA : AtE g L f e rd C ys ns Dt ts tn Dd ds o3 o4 o5 o6 top st db s.heap) (hL : 159 < L) (hR : RingOk (ringL ns)) (hG : AllBare s.gens) (h4 : ∀ k, k < (ringL ns).length → (ringL ns).getD k 0 = 40 ∨ (ringL ns).getD k 0 = 41) (hck : ∀ k, k < (ringL ns).length → (ringL ns).getD k 0 = 40 → chk (mkS (textL (ringL ns) ns ((turnI (ringL ns).length k).drop 1))) = decide (dotI (ringL ns) ns k = top)) {tgt it : Expr} {bd more : List Stmt} {pp : Pos} (hbody : body.drop 15 = .For tgt it bd [] pp :: more) (hrest : ∀ (R : Result → Shared → Prop) (s₀ : Shared) (I : Addr) (i : Nat) (t : Tok) (m₂ : Str → Option Value) (h : Heap) (tk : Nat) (gs : Array GenState) (nn : Nat) (p1 p2 : Array Value) (tl own : List (Addr × Obj)), AllBare gs → i < (ringL ns).length → m₂ (Str.ofString "k") = some (.int (i : Int) t) → LocE m₂ f e rd Dt top st db →
      TN68 g tl p1 → TN75 g tl p2 → (∀ q ∈ tn, q ∈ tl) → (∀ q ∈ tl, q.1 ≠ 75 ∧ q.1 ≠ 68 ∧ q.1 ≠ 159) → (∀ q ∈ own, q.1 = I) → (∃ o, (I, o) ∈ own ∧ NoC o) → (∀ q ∈ (75, tabObj p2) :: (68, tabObj p1) :: (Dd, LCg.lst ds) :: (Dt, LCg.lst ts) :: (C, listOf ys.toArray nn) :: (L + 1 + 1 + 1 + 1 + 1 + 1, o6) :: (L + 1 + 1 + 1 + 1 + 1, o5) :: (L + 1 + 1 + 1 + 1, o4) :: (L + 1 + 1 + 1, o3) :: (159, tabObj #[]) :: tl, q.1 ≠ I) → I ≠ 75 → I ≠ 68 → LedE L C ys ns Dt ts Dd ds o3 o4 o5 o6 tn → Fr g L h m₂ →
      News g L h ((75, tabObj p2) :: (68, tabObj p1) :: (Dd, LCg.lst ds) :: (Dt, LCg.lst ts) :: (C, listOf ys.toArray nn) :: (L + 1 + 1 + 1 + 1 + 1 + 1, o6) :: (L + 1 + 1 + 1 + 1 + 1, o5) :: (L + 1 + 1 + 1 + 1, o4) :: (L + 1 + 1 + 1, o3) :: (159, tabObj #[]) :: (tl ++ own)) →
      wpAny (model PySem.Challenge.rw_rs0108_01.row.prog w) (A.deeper (envOfC nm sc L fa (.ref 161))) (execs (bd.drop 1) (envOfC nm sc L fa (.ref 161))) (AfterW g L [I] own AllBare s₀ (AtK g L f e rd C nn ys Dt ts tn Dd ds o3 o4 o5 o6 top st db) R) (fun _ _ => False) { s₀ with heap := h, toks := tk, gens := gs }) (hnext : ∀ (m₂ : Str → Option Value) (h : Heap) (tk : Nat) (gs : Array GenState) (nn : Nat) (p1 p2 : Array Value) (tl : List (Addr × Obj)), AllBare gs → LocE m₂ f e rd Dt top st db →
      TN68 g tl p1 → TN75 g tl p2 → (∀ q ∈ tn, q ∈ tl) → (∀ q ∈ tl, q.1 ≠ 75 ∧ q.1 ≠ 68 ∧ q.1 ≠ 159) → LedE L C ys ns Dt ts Dd ds o3 o4 o5 o6 tn → Fr g L h m₂ →
      News g L h ((75, tabObj p2) :: (68, tabObj p1) :: (Dd, LCg.lst ds) :: (Dt, LCg.lst ts) :: (C, listOf ys.toArray nn) :: (L + 1 + 1 + 1 + 1 + 1 + 1, o6) :: (L + 1 + 1 + 1 + 1 + 1, o5) :: (L + 1 + 1 + 1 + 1, o4) :: (L + 1 + 1 + 1, o3) :: (159, tabObj #[]) :: tl) →
      wpAny (model PySem.Challenge.rw_rs0108_01.row.prog w) (A.deeper (envOfC nm sc L fa (.ref 161))) (execs (body.drop 16) (envOfC nm sc L fa (.ref 161))) Q E { s with heap := h, toks := tk, gens := gs }) :
    wpAny (model PySem.Challenge.rw_rs0108_01.row.prog w) (A.deeper (envOfC nm sc L fa (.ref 161))) (execs (body.drop 15) (envOfC nm sc L fa (.ref 161))) Q E s := ksegF.all (fa, w, A, s, p, loose, mean, mg, mb, g, L, E, Q, f, e, rd, C, ys, ts, ns, Dt, tn, Dd, ds, o3, o4, o5, o6, top, st, db) nm qual ps body sc dV kV doc pm cdv ct oc an od osl hK X T hh hroom hA hL hR hG h4 hck tgt it bd more pp hbody hrest hnext
end
end Mine
end
-- part LawR
section
open PySem PySem.W PySem.Calls PyProof.Rows
namespace Mine
/-- the locals behind the division -/
structure LocR (m : Str → Option Value) (f e rd : Nat) (Dt : Addr) (top : Int) (st : Nat) (db : Addr) (i tc : Nat) (D : Addr) : Prop where
  loc : LocE m f e rd Dt top st db
  k : ∃ t, m (Str.ofString "k") = some (.int (i : Int) t)
  to : ∃ t, m (Str.ofString "to_come") = some (.int (tc : Int) t)
  told : m (Str.ofString "told") = some (.ref D)
theorem tabN_part {pos : Int × Int} {qual : Str} {g : Heap} {a b : List (Addr × Obj)} {ps : Array Value} (x : TabN pos qual g a ps) (h : ∀ c o vs t, (c, o) ∈ a → o.data = .fields vs → vs[1]? = some (.str qual t) → (c, o) ∈ b) : TabN pos qual g b ps := by
  rcases x with rfl | ⟨c, o, vs, t, rfl, hm, r1, r2, r3, r4⟩
  · exact .inl rfl
  · exact .inr ⟨c, o, vs, t, rfl, hm.imp (fun q => h c o vs t q r1 r2) id, r1, r2, r3, r4⟩
section
variable {fa : Addr} {w : World} {A : Around} {p : Program} {loose : List Str} {mean : ExcName → Option Value} {mg mb : Str → Option Value} {g : Heap} {L : Nat}
end
section
namespace ksegR
noncomputable abbrev V := (Addr) × (World) × (Around) × (Program) × (List Str) × (ExcName → Option Value) × (Str → Option Value) × (Str → Option Value) × (Heap) × (Nat) × (Nat) × (Nat) × (Nat) × (Nat) × (List Value) × (List Value) × (List Int) × (Addr) × (List (Addr × Obj)) × (Addr) × (List Value) × (Obj) × (Obj) × (Obj) × (Obj) × (Int) × (Nat) × (Addr) × (Nat) × (Nat) × (Nat) × (Nat) × (Nat) × (Flow → Shared → Prop) × (Value → Shared → Prop) × (Shared) × (Tok) × (Str → Option Value) × (Nat) × (Array Value) × (Array Value) × (List (Addr × Obj)) × (List (Addr × Obj))
noncomputable def P (v : V) : Prop :=
  (fun (fa : Addr) (w : World) (A : Around) (p : Program) (loose : List Str) (mean : ExcName → Option Value) (mg : Str → Option Value) (mb : Str → Option Value) (g : Heap) (L : Nat) (f : Nat) (e : Nat) (rd : Nat) (C : Nat) (ys : List Value) (ts : List Value) (ns : List Int) (Dt : Addr) (tn : List (Addr × Obj)) (Dd : Addr) (ds : List Value) (o3 : Obj) (o4 : Obj) (o5 : Obj) (o6 : Obj) (top : Int) (st : Nat) (db : Addr) (i : Nat) (dl : Nat) (tc : Nat) (op : Nat) (W : Nat) (Q : Flow → Shared → Prop) (E : Value → Shared → Prop) (s : Shared) (t : Tok) (m₂ : Str → Option Value) (nn : Nat) (p1 : Array Value) (p2 : Array Value) (tl : List (Addr × Obj)) (own : List (Addr × Obj)) =>
  ∀ (nm qual : Str) (ps : Arguments) (body : List Stmt) (sc : Scope) (dV kV doc pm cdv ct oc : Value) (an od : Option Addr) (osl : Array (Option Value)) (hK : (hd.heap_39 w.params).lookup 162 = some ⟨oc, od, .func (fnOf nm qual ps body sc dV kV doc pm an cdv ct), osl⟩) (X : (hd.heap_39 w.params).In g) (T : Top p loose mean mg mb g) (hh : A.handled = none) (hroom : A.depth + 60 < recursionLimit) (hL : 159 < L) (hR : RingOk (ringL ns)) (hdl : top - dotI (ringL ns) ns i = (dl : Int)) (h2 : 2 * dl = tc + (ringL ns).length * op) (hop : op ≤ 4) (htc : ((st : Int) - (i : Int)).fmod ((ringL ns).length : Int) = (tc : Int)) (htcN : tc < (ringL ns).length) (hW2 : 2 ≤ W) (hW : W ≤ 4401) (hf1 : 2 ^ W ≤ f) (hf2 : f < 2 ^ (W + 1)) (he : e < 2 ^ W) (hrd : rd < 2 ^ (2 * W + 9)) (C1 : CodeHd g 72 68) (C2 : CodeHd g 79 75) (tgt it : Expr) (bd more : List Stmt) (pp : Pos) (hbody : body.drop 15 = .For tgt it bd [] pp :: more) (I : Addr) (hi : i < (ringL ns).length) (hk : m₂ (Str.ofString "k") = some (.int (i : Int) t)) (lo : LocE m₂ f e rd Dt top st db) (T1 : TN68 g tl p1) (T2 : TN75 g tl p2) (htn : ∀ q ∈ tn, q ∈ tl) (htl : ∀ q ∈ tl, q.1 ≠ 75 ∧ q.1 ≠ 68 ∧ q.1 ≠ 159) (hown : ∀ q ∈ own, q.1 = I) (hIo : ∃ o, (I, o) ∈ own ∧ NoC o) (hnI : ∀ q ∈ (75, tabObj p2) :: (68, tabObj p1) :: (Dd, LCg.lst ds) :: (Dt, LCg.lst ts) :: (C, listOf ys.toArray nn) :: (L + 1 + 1 + 1 + 1 + 1 + 1, o6) :: (L + 1 + 1 + 1 + 1 + 1, o5) :: (L + 1 + 1 + 1 + 1, o4) :: (L + 1 + 1 + 1, o3) :: (159, tabObj #[]) :: tl, q.1 ≠ I) (hI1 : I ≠ 75) (hI2 : I ≠ 68) (le : LedE L C ys ns Dt ts Dd ds o3 o4 o5 o6 tn) (F : Fr g L s.heap m₂) (N : News g L s.heap ((75, tabObj p2) :: (68, tabObj p1) :: (Dd, LCg.lst ds) :: (Dt, LCg.lst ts) :: (C, listOf ys.toArray nn) :: (L + 1 + 1 + 1 + 1 + 1 + 1, o6) :: (L + 1 + 1 + 1 + 1 + 1, o5) :: (L + 1 + 1 + 1 + 1, o4) :: (L + 1 + 1 + 1, o3) :: (159, tabObj #[]) :: (tl ++ own))) (hnext : ∀ h' tk' (m' : Str → Option Value) D t1 t2 n p1' p2' tl', LocR m' f e rd Dt top st db i tc D → TN68 g tl' p1' → TN75 g tl' p2' → (∀ q ∈ tn, q ∈ tl') → (∀ q ∈ tl', q.1 ≠ 75 ∧ q.1 ≠ 68 ∧ q.1 ≠ 159 ∧ q.1 ≠ I) → D ≠ I → Fr g L h' m' →
      News g L h' ((D, { cls := .type "tuple", data := .seq #[.int ((op + rd : Nat) : Int) t1, .int ((tc * f + e : Nat) : Int) t2] n }) :: (75, tabObj p2') :: (68, tabObj p1') :: (Dd, LCg.lst ds) :: (Dt, LCg.lst ts) :: (C, listOf ys.toArray nn) :: (L + 1 + 1 + 1 + 1 + 1 + 1, o6) :: (L + 1 + 1 + 1 + 1 + 1, o5) :: (L + 1 + 1 + 1 + 1, o4) :: (L + 1 + 1 + 1, o3) :: (159, tabObj #[]) :: (tl' ++ own)) →
      wpAny (model PySem.Challenge.rw_rs0108_01.row.prog w) (A.deeper (envOfC nm sc L fa (.ref 161))) (execs (bd.drop 3) (envOfC nm sc L fa (.ref 161))) Q E { s with heap := h', toks := tk' }), wpAny (model PySem.Challenge.rw_rs0108_01.row.prog w) (A.deeper (envOfC nm sc L fa (.ref 161))) (execs (bd.drop 1) (envOfC nm sc L fa (.ref 161))) Q E s)
    v.1 v.2.1 v.2.2.1 v.2.2.2.1 v.2.2.2.2.1 v.2.2.2.2.2.1 v.2.2.2.2.2.2.1 v.2.2.2.2.2.2.2.1 v.2.2.2.2.2.2.2.2.1 v.2.2.2.2.2.2.2.2.2.1 v.2.2.2.2.2.2.2.2.2.2.1 v.2.2.2.2.2.2.2.2.2.2.2.1 v.2.2.2.2.2.2.2.2.2.2.2.2.1 v.2.2.2.2.2.2.2.2.2.2.2.2.2.1 v.2.2.2.2.2.2.2.2.2.2.2.2.2.2.1 v.2.2.2.2.2.2.2.2.2.2.2.2.2.2.2.1 v.2.2.2.2.2.2.2.2.2.2.2.2.2.2.2.2.1 v.2.2.2.2.2.2.2.2.2.2.2.2.2.2.2.2.2.1 v.2.2.2.2.2.2.2.2.2.2.2.2.2.2.2.2.2.2.1 v.2.2.2.2.2.2.2.2.2.2.2.2.2.2.2.2.2.2.2.1 v.2.2.2.2.2.2.2.2.2.2.2.2.2.2.2.2.2.2.2.2.1 v.2.2.2.2.2.2.2.2.2.2.2.2.2.2.2.2.2.2.2.2.2.1 v.2.2.2.2.2.2.2.2.2.2.2.2.2.2.2.2.2.2.2.2.2.2.1 v.2.2.2.2.2.2.2.2.2.2.2.2.2.2.2.2.2.2.2.2.2.2.2.1 v.2.2.2.2.2.2.2.2.2.2.2.2.2.2.2.2.2.2.2.2.2.2.2.2.1 v.2.2.2.2.2.2.2.2.2.2.2.2.2.2.2.2.2.2.2.2.2.2.2.2.2.1 v.2.2.2.2.2.2.2.2.2.2.2.2.2.2.2.2.2.2.2.2.2.2.2.2.2.2.1 v.2.2.2.2.2.2.2.2.2.2.2.2.2.2.2.2.2.2.2.2.2.2.2.2.2.2.2.1 v.2.2.2.2.2.2.2.2.2.2.2.2.2.2.2.2.2.2.2.2.2.2.2.2.2.2.2.2.1 v.2.2.2.2.2.2.2.2.2.2.2.2.2.2.2.2.2.2.2.2.2.2.2.2.2.2.2.2.2.1 v.2.2.2.2.2.2.2.2.2.2.2.2.2.2.2.2.2.2.2.2.2.2.2.2.2.2.2.2.2.2.1 v.2.2.2.2.2.2.2.2.2.2.2.2.2.2.2.2.2.2.2.2.2.2.2.2.2.2.2.2.2.2.2.1 v.2.2.2.2.2.2.2.2.2.2.2.2.2.2.2.2.2.2.2.2.2.2.2.2.2.2.2.2.2.2.2.2.1 v.2.2.2.2.2.2.2.2.2.2.2.2.2.2.2.2.2.2.2.2.2.2.2.2.2.2.2.2.2.2.2.2.2.1 v.2.2.2.2.2.2.2.2.2.2.2.2.2.2.2.2.2.2.2.2.2.2.2.2.2.2.2.2.2.2.2.2.2.2.1 v.2.2.2.2.2.2.2.2.2.2.2.2.2.2.2.2.2.2.2.2.2.2.2.2.2.2.2.2.2.2.2.2.2.2.2.1 v.2.2.2.2.2.2.2.2.2.2.2.2.2.2.2.2.2.2.2.2.2.2.2.2.2.2.2.2.2.2.2.2.2.2.2.2.1 v.2.2.2.2.2.2.2.2.2.2.2.2.2.2.2.2.2.2.2.2.2.2.2.2.2.2.2.2.2.2.2.2.2.2.2.2.2.1 v.2.2.2.2.2.2.2.2.2.2.2.2.2.2.2.2.2.2.2.2.2.2.2.2.2.2.2.2.2.2.2.2.2.2.2.2.2.2.1 v.2.2.2.2.2.2.2.2.2.2.2.2.2.2.2.2.2.2.2.2.2.2.2.2.2.2.2.2.2.2.2.2.2.2.2.2.2.2.2.1 v.2.2.2.2.2.2.2.2.2.2.2.2.2.2.2.2.2.2.2.2.2.2.2.2.2.2.2.2.2.2.2.2.2.2.2.2.2.2.2.2.1 v.2.2.2.2.2.2.2.2.2.2.2.2.2.2.2.2.2.2.2.2.2.2.2.2.2.2.2.2.2.2.2.2.2.2.2.2.2.2.2.2.2.1 v.2.2.2.2.2.2.2.2.2.2.2.2.2.2.2.2.2.2.2.2.2.2.2.2.2.2.2.2.2.2.2.2.2.2.2.2.2.2.2.2.2.2
@[irreducible] noncomputable def v0 : V := @Classical.epsilon V ⟨(0, aW, callerA, PySem.Challenge.rw_rs0108_01.row.prog, [], fun _ => none, fun _ => none, fun _ => none, {}, 0, 0, 0, 0, 0, [], [], [], 0, [], 0, [], { cls := .none, data := .cell none }, { cls := .none, data := .cell none }, { cls := .none, data := .cell none }, { cls := .none, data := .cell none }, 0, 0, 0, 0, 0, 0, 0, 0, fun _ _ => True, fun _ _ => True, {}, 0, fun _ => none, 0, #[], #[], [], [])⟩ fun v => ¬ P v
noncomputable def fa : Addr := v0.1
noncomputable def w : World := v0.2.1
noncomputable def A : Around := v0.2.2.1
noncomputable def p : Program := v0.2.2.2.1
noncomputable def loose : List Str := v0.2.2.2.2.1
noncomputable def mean : ExcName → Option Value := v0.2.2.2.2.2.1
noncomputable def mg : Str → Option Value := v0.2.2.2.2.2.2.1
noncomputable def mb : Str → Option Value := v0.2.2.2.2.2.2.2.1
noncomputable def g : Heap := v0.2.2.2.2.2.2.2.2.1
noncomputable def L : Nat := v0.2.2.2.2.2.2.2.2.2.1
noncomputable def f : Nat := v0.2.2.2.2.2.2.2.2.2.2.1
noncomputable def e : Nat := v0.2.2.2.2.2.2.2.2.2.2.2.1
noncomputable def rd : Nat := v0.2.2.2.2.2.2.2.2.2.2.2.2.1
noncomputable def C : Nat := v0.2.2.2.2.2.2.2.2.2.2.2.2.2.1
noncomputable def ys : List Value := v0.2.2.2.2.2.2.2.2.2.2.2.2.2.2.1
noncomputable def ts : List Value := v0.2.2.2.2.2.2.2.2.2.2.2.2.2.2.2.1
noncomputable def ns : List Int := v0.2.2.2.2.2.2.2.2.2.2.2.2.2.2.2.2.1
noncomputable def Dt : Addr := v0.2.2.2.2.2.2.2.2.2.2.2.2.2.2.2.2.2.1
noncomputable def tn : List (Addr × Obj) := v0.2.2.2.2.2.2.2.2.2.2.2.2.2.2.2.2.2.2.1
noncomputable def Dd : Addr := v0.2.2.2.2.2.2.2.2.2.2.2.2.2.2.2.2.2.2.2.1
noncomputable def ds : List Value := v0.2.2.2.2.2.2.2.2.2.2.2.2.2.2.2.2.2.2.2.2.1
noncomputable def o3 : Obj := v0.2.2.2.2.2.2.2.2.2.2.2.2.2.2.2.2.2.2.2.2.2.1
noncomputable def o4 : Obj := v0.2.2.2.2.2.2.2.2.2.2.2.2.2.2.2.2.2.2.2.2.2.2.1
noncomputable def o5 : Obj := v0.2.2.2.2.2.2.2.2.2.2.2.2.2.2.2.2.2.2.2.2.2.2.2.1
noncomputable def o6 : Obj := v0.2.2.2.2.2.2.2.2.2.2.2.2.2.2.2.2.2.2.2.2.2.2.2.2.1
noncomputable def top : Int := v0.2.2.2.2.2.2.2.2.2.2.2.2.2.2.2.2.2.2.2.2.2.2.2.2.2.1
noncomputable def st : Nat := v0.2.2.2.2.2.2.2.2.2.2.2.2.2.2.2.2.2.2.2.2.2.2.2.2.2.2.1
noncomputable def db : Addr := v0.2.2.2.2.2.2.2.2.2.2.2.2.2.2.2.2.2.2.2.2.2.2.2.2.2.2.2.1
noncomputable def i : Nat := v0.2.2.2.2.2.2.2.2.2.2.2.2.2.2.2.2.2.2.2.2.2.2.2.2.2.2.2.2.1
noncomputable def dl : Nat := v0.2.2.2.2.2.2.2.2.2.2.2.2.2.2.2.2.2.2.2.2.2.2.2.2.2.2.2.2.2.1
noncomputable def tc : Nat := v0.2.2.2.2.2.2.2.2.2.2.2.2.2.2.2.2.2.2.2.2.2.2.2.2.2.2.2.2.2.2.1
noncomputable def op : Nat := v0.2.2.2.2.2.2.2.2.2.2.2.2.2.2.2.2.2.2.2.2.2.2.2.2.2.2.2.2.2.2.2.1
noncomputable def W : Nat := v0.2.2.2.2.2.2.2.2.2.2.2.2.2.2.2.2.2.2.2.2.2.2.2.2.2.2.2.2.2.2.2.2.1
noncomputable def Q : Flow → Shared → Prop := v0.2.2.2.2.2.2.2.2.2.2.2.2.2.2.2.2.2.2.2.2.2.2.2.2.2.2.2.2.2.2.2.2.2.1
noncomputable def E : Value → Shared → Prop := v0.2.2.2.2.2.2.2.2.2.2.2.2.2.2.2.2.2.2.2.2.2.2.2.2.2.2.2.2.2.2.2.2.2.2.1
noncomputable def s : Shared := v0.2.2.2.2.2.2.2.2.2.2.2.2.2.2.2.2.2.2.2.2.2.2.2.2.2.2.2.2.2.2.2.2.2.2.2.1
noncomputable def t : Tok := v0.2.2.2.2.2.2.2.2.2.2.2.2.2.2.2.2.2.2.2.2.2.2.2.2.2.2.2.2.2.2.2.2.2.2.2.2.1
noncomputable def m₂ : Str → Option Value := v0.2.2.2.2.2.2.2.2.2.2.2.2.2.2.2.2.2.2.2.2.2.2.2.2.2.2.2.2.2.2.2.2.2.2.2.2.2.1
noncomputable def nn : Nat := v0.2.2.2.2.2.2.2.2.2.2.2.2.2.2.2.2.2.2.2.2.2.2.2.2.2.2.2.2.2.2.2.2.2.2.2.2.2.2.1
noncomputable def p1 : Array Value := v0.2.2.2.2.2.2.2.2.2.2.2.2.2.2.2.2.2.2.2.2.2.2.2.2.2.2.2.2.2.2.2.2.2.2.2.2.2.2.2.1
noncomputable def p2 : Array Value := v0.2.2.2.2.2.2.2.2.2.2.2.2.2.2.2.2.2.2.2.2.2.2.2.2.2.2.2.2.2.2.2.2.2.2.2.2.2.2.2.2.1
noncomputable def tl : List (Addr × Obj) := v0.2.2.2.2.2.2.2.2.2.2.2.2.2.2.2.2.2.2.2.2.2.2.2.2.2.2.2.2.2.2.2.2.2.2.2.2.2.2.2.2.2.1
noncomputable def own : List (Addr × Obj) := v0.2.2.2.2.2.2.2.2.2.2.2.2.2.2.2.2.2.2.2.2.2.2.2.2.2.2.2.2.2.2.2.2.2.2.2.2.2.2.2.2.2.2
set_option maxHeartbeats 8000000 in
theorem main (nm qual : Str) (ps : Arguments) (body : List Stmt) (sc : Scope) (dV kV doc pm cdv ct oc : Value) (an od : Option Addr) (osl : Array (Option Value)) (hK : (hd.heap_39 w.params).lookup 162 = some ⟨oc, od, .func (fnOf nm qual ps body sc dV kV doc pm an cdv ct), osl⟩) (X : (hd.heap_39 w.params).In g) (T : Top p loose mean mg mb g) (hh : A.handled = none) (hroom : A.depth + 60 < recursionLimit) (hL : 159 < L) (hR : RingOk (ringL ns)) (hdl : top - dotI (ringL ns) ns i = (dl : Int)) (h2 : 2 * dl = tc + (ringL ns).length * op) (hop : op ≤ 4) (htc : ((st : Int) - (i : Int)).fmod ((ringL ns).length : Int) = (tc : Int)) (htcN : tc < (ringL ns).length) (hW2 : 2 ≤ W) (hW : W ≤ 4401) (hf1 : 2 ^ W ≤ f) (hf2 : f < 2 ^ (W + 1)) (he : e < 2 ^ W) (hrd : rd < 2 ^ (2 * W + 9)) (C1 : CodeHd g 72 68) (C2 : CodeHd g 79 75) (tgt it : Expr) (bd more : List Stmt) (pp : Pos) (hbody : body.drop 15 = .For tgt it bd [] pp :: more) (I : Addr) (hi : i < (ringL ns).length) (hk : m₂ (Str.ofString "k") = some (.int (i : Int) t)) (lo : LocE m₂ f e rd Dt top st db) (T1 : TN68 g tl p1) (T2 : TN75 g tl p2) (htn : ∀ q ∈ tn, q ∈ tl) (htl : ∀ q ∈ tl, q.1 ≠ 75 ∧ q.1 ≠ 68 ∧ q.1 ≠ 159) (hown : ∀ q ∈ own, q.1 = I) (hIo : ∃ o, (I, o) ∈ own ∧ NoC o) (hnI : ∀ q ∈ (75, tabObj p2) :: (68, tabObj p1) :: (Dd, LCg.lst ds) :: (Dt, LCg.lst ts) :: (C, listOf ys.toArray nn) :: (L + 1 + 1 + 1 + 1 + 1 + 1, o6) :: (L + 1 + 1 + 1 + 1 + 1, o5) :: (L + 1 + 1 + 1 + 1, o4) :: (L + 1 + 1 + 1, o3) :: (159, tabObj #[]) :: tl, q.1 ≠ I) (hI1 : I ≠ 75) (hI2 : I ≠ 68) (le : LedE L C ys ns Dt ts Dd ds o3 o4 o5 o6 tn) (F : Fr g L s.heap m₂) (N : News g L s.heap ((75, tabObj p2) :: (68, tabObj p1) :: (Dd, LCg.lst ds) :: (Dt, LCg.lst ts) :: (C, listOf ys.toArray nn) :: (L + 1 + 1 + 1 + 1 + 1 + 1, o6) :: (L + 1 + 1 + 1 + 1 + 1, o5) :: (L + 1 + 1 + 1 + 1, o4) :: (L + 1 + 1 + 1, o3) :: (159, tabObj #[]) :: (tl ++ own))) (hnext : ∀ h' tk' (m' : Str → Option Value) D t1 t2 n p1' p2' tl', LocR m' f e rd Dt top st db i tc D → TN68 g tl' p1' → TN75 g tl' p2' → (∀ q ∈ tn, q ∈ tl') → (∀ q ∈ tl', q.1 ≠ 75 ∧ q.1 ≠ 68 ∧ q.1 ≠ 159 ∧ q.1 ≠ I) → D ≠ I → Fr g L h' m' →
      News g L h' ((D, { cls := .type "tuple", data := .seq #[.int ((op + rd : Nat) : Int) t1, .int ((tc * f + e : Nat) : Int) t2] n }) :: (75, tabObj p2') :: (68, tabObj p1') :: (Dd, LCg.lst ds) :: (Dt, LCg.lst ts) :: (C, listOf ys.toArray nn) :: (L + 1 + 1 + 1 + 1 + 1 + 1, o6) :: (L + 1 + 1 + 1 + 1 + 1, o5) :: (L + 1 + 1 + 1 + 1, o4) :: (L + 1 + 1 + 1, o3) :: (159, tabObj #[]) :: (tl' ++ own)) →
      wpAny (model PySem.Challenge.rw_rs0108_01.row.prog w) (A.deeper (envOfC nm sc L fa (.ref 161))) (execs (bd.drop 3) (envOfC nm sc L fa (.ref 161))) Q E { s with heap := h', toks := tk' }) :
    wpAny (model PySem.Challenge.rw_rs0108_01.row.prog w) (A.deeper (envOfC nm sc L fa (.ref 161))) (execs (bd.drop 1) (envOfC nm sc L fa (.ref 161))) Q E s := by
  w_top off
  revert hK X
  k_fill
  intro hK X
  refine look_parts hK (by k_is) ?_
  rintro rfl rfl rfl
  clear hK
  refine for_parts hbody rfl ?_
  rintro rfl rfl
  clear hbody
  obtain ⟨d3, ⟨t4, d4⟩, ⟨t5, d5⟩, d6, hys, h11, ht, hds, n5, n6, n7⟩ := le
  obtain ⟨lt, ⟨tf, lf⟩, ⟨te, lx⟩, ⟨tr, lr⟩, ⟨tt, lp⟩, ⟨tst, lst⟩, lb⟩ := lo
  obtain ⟨r, hr⟩ : ∃ r, r = ringL ns := ⟨_, rfl⟩
  rw [← hr] at d4 d5 ht hR hds hi hdl h2 htc htcN
  have hr9 := hR.hi
  have hr7 := hR.lo
  have F10 := fr_known (k := Str.ofString "best") (fr_known (k := Str.ofString "start") (fr_known (k := Str.ofString "top") (fr_known (k := Str.ofString "rounds") (fr_known (k := Str.ofString "extra") (fr_known (k := Str.ofString "factor") (fr_known (k := Str.ofString "turns") (fr_known (k := Str.ofString "k") F hk) lt) lf) lx) lr) lp) lst) lb
  clear F
  obtain ⟨k1, k2, k3, k4, k5, k6⟩ := dmp_ok (x := 2 * dl) hW2 hW hf1 hf2 he hrd hr7 hr9 (by have := Nat.mul_le_mul hr9 hop; omega)
  have kN : bitsN r.length ≤ 2 ^ 20 := bitsN_le.mpr (Nat.lt_of_le_of_lt hr9 (Nat.lt_of_lt_of_le (by decide : 9 < 2 ^ 4) (Nat.pow_le_pow_right (by decide) (by decide))))
  dsimp only [List.drop]
  refine wp_cut 1 _ ?_
  dsimp only [List.take, List.drop]
  repeat' (first | ((with_reducible show wpAny _ _ (subscriptTail _ _ (Value.ref _) (Value.int _ _)) _ _ _); refine dots_at ‹_› (by k_mem) ‹_› ‹_› ‹_› ?_; intro _) | walk1)
  refine .mk ?_
  rename Fr _ _ _ _ => F3
  rename News _ _ _ _ => N3
  refine wp_cut 1 _ ?_
  dsimp only [List.take, List.drop]
  repeat (first | ((with_reducible show wpAny _ _ (subscriptTail _ _ (Value.ref _) (Value.int _ _)) _ _ _); refine dots_at ‹_› (by k_mem) ‹_› ‹_› ‹_› ?_; intro _) | walk1)
  rw [show 2 * (top - dotI r ns i) + (r.length : Int) * (rd : Int) = ((2 * dl + r.length * rd : Nat) : Int) by rw [hdl]; push_cast; rfl]
  refine mulN ?_ k1 k2
  iterate 1 (first | ((with_reducible show wpAny _ _ (subscriptTail _ _ (Value.ref _) (Value.int _ _)) _ _ _); refine dots_at ‹_› (by k_mem) ‹_› ‹_› ‹_› ?_; intro _) | walk1)
  refine addN ?_
  iterate 4 (first | ((with_reducible show wpAny _ _ (subscriptTail _ _ (Value.ref _) (Value.int _ _)) _ _ _); refine dots_at ‹_› (by k_mem) ‹_› ‹_› ‹_› ?_; intro _) | walk1)
  refine mulN ?_ kN k2
  repeat' (first | ((with_reducible show wpAny _ _ (subscriptTail _ _ (Value.ref _) (Value.int _ _)) _ _ _); refine dots_at ‹_› (by k_mem) ‹_› ‹_› ‹_› ?_; intro _) | walk1)
  have ho : ∀ q ∈ (Dd, LCg.lst ds) :: (Dt, LCg.lst ts) :: (C, listOf ys.toArray nn) :: (L + 1 + 1 + 1 + 1 + 1 + 1, o6) :: (L + 1 + 1 + 1 + 1 + 1, o5) :: (L + 1 + 1 + 1 + 1, o4) :: (L + 1 + 1 + 1, o3) :: (159, tabObj #[]) :: (tl ++ own), q.1 ≠ 68 ∧ q.1 ≠ 75 :=
    List.forall_mem_cons.mpr ⟨⟨Ne.symm n7.2.1, Ne.symm n7.1⟩, List.forall_mem_cons.mpr ⟨⟨Ne.symm n6.2.1, Ne.symm n6.1⟩, List.forall_mem_cons.mpr ⟨⟨Ne.symm n5.2.1, Ne.symm n5.1⟩,
      List.forall_mem_cons.mpr ⟨⟨neN (by omega), neN (by omega)⟩, List.forall_mem_cons.mpr ⟨⟨neN (by omega), neN (by omega)⟩, List.forall_mem_cons.mpr ⟨⟨neN (by omega), neN (by omega)⟩,
      List.forall_mem_cons.mpr ⟨⟨neN (by omega), neN (by omega)⟩, List.forall_mem_cons.mpr ⟨⟨neN (by omega), neN (by omega)⟩, fun q hq => (List.mem_append.mp hq).elim
        (fun hq => ⟨(htl q hq).2.1, (htl q hq).1⟩) fun hq => by rw [hown q hq]; exact ⟨hI2, hI1⟩⟩⟩⟩⟩⟩⟩⟩⟩
  have sub8 : ∀ q ∈ tl, q ∈ (Dd, LCg.lst ds) :: (Dt, LCg.lst ts) :: (C, listOf ys.toArray nn) :: (L + 1 + 1 + 1 + 1 + 1 + 1, o6) :: (L + 1 + 1 + 1 + 1 + 1, o5) :: (L + 1 + 1 + 1 + 1, o4) :: (L + 1 + 1 + 1, o3) :: (159, tabObj #[]) :: (tl ++ own) := fun q hq => by
    repeat' (first | exact List.mem_append_left _ hq | apply List.Mem.tail)
  refine use_dmp F3 N3 (T1.mono fun q hq _ _ => sub8 q hq) (T2.mono fun q hq _ _ => sub8 q hq) ho k3 k4 k5 k6 C1 C2 X T (by show A.depth + 1 + 40 < recursionLimit; omega) hh ?_
  intro h5 tk5 D t1 t2 n p1' p2' ex F5 N5 T1' T2' hex hne hD
  obtain ⟨hq, hm⟩ := dmp_val (rd := rd) (f := f) (e := e) h2 htcN (by omega)
  rw [hq, hm] at N5
  clear k1 k2 k3 k4 k5 k6 kN hq hm F3 N3 T1 T2
  repeat' (first | ((with_reducible show wpAny _ _ (subscriptTail _ _ (Value.ref _) (Value.int _ _)) _ _ _); refine dots_at ‹_› (by k_mem) ‹_› ‹_› ‹_› ?_; intro _) | walk1)
  refine .mk ?_
  rename Fr _ _ _ _ => F6
  rename News _ _ _ _ => N6
  obtain ⟨oI, hoI, hoN⟩ := hIo
  have hpart : ∀ (qual : Str) c o vs t, (c, o) ∈ ex ++ ((Dd, LCg.lst ds) :: (Dt, LCg.lst ts) :: (C, listOf ys.toArray nn) :: (L + 1 + 1 + 1 + 1 + 1 + 1, o6) :: (L + 1 + 1 + 1 + 1 + 1, o5) :: (L + 1 + 1 + 1 + 1, o4) :: (L + 1 + 1 + 1, o3) :: (159, tabObj #[]) :: (tl ++ own)) → o.data = .fields vs → vs[1]? = some (.str qual t) → (c, o) ∈ ex.filter (fun q => decide (q.1 ≠ 159 ∧ q.1 ≠ I)) ++ tl := by
    intro qual c o vs t hm hd hv
    rcases List.mem_append.mp hm with hm | hm
    · refine List.mem_append_left _ (List.mem_filter.mpr ⟨hm, decide_eq_true ⟨fun e1 => ?_, fun e1 => ?_⟩⟩)
      · have a1 := (N6 (c, o) (.tail _ (.tail _ (.tail _ (List.mem_append_left _ hm))))).1
        have a2 := (N6 (159, tabObj #[]) (.tail _ (.tail _ (.tail _ (List.mem_append_right _ (by k_mem)))))).1
        have e1 : c = 159 := e1
        rw [e1, a2] at a1
        cases a1
        cases hd
        cases hv
      · have a1 := (N6 (c, o) (.tail _ (.tail _ (.tail _ (List.mem_append_left _ hm))))).1
        have a2 := (N6 (I, oI) (.tail _ (.tail _ (.tail _ (List.mem_append_right _ (by repeat' (first | exact List.mem_append_right _ hoI | apply List.Mem.tail))))))).1
        have e1 : c = I := e1
        rw [e1, a2] at a1
        cases a1
        exact absurd hv (hoN _ hd _ _)
    · refine (allC (p := fun q : Addr × Obj => q.2.data = .fields vs → q ∈ _) (fun hd => by cases hd) (allC (fun hd => by cases hd) (allC (fun hd => by cases hd) (allC (fun hd => by rw [show o6.data = _ from d6] at hd; cases hd) (allC (fun hd => by rw [show o5.data = _ from d5] at hd; cases hd)
        (allC (fun hd => by rw [show o4.data = _ from d4] at hd; cases hd) (allC (fun hd => by rw [show o3.data = _ from d3] at hd; cases hd) (allC (fun hd => by cases hd; cases hv) fun q hm hd => ?_)))))))) (c, o) hm hd
      rcases List.mem_append.mp hm with hm | hm
      · exact List.mem_append_right _ hm
      · obtain ⟨qc, qo⟩ := q
        have e1 : qc = I := hown _ hm
        have a1 := (N6 (qc, qo) (.tail _ (.tail _ (.tail _ (List.mem_append_right _ (by repeat' (first | exact List.mem_append_right _ hm | apply List.Mem.tail))))))).1
        have a2 := (N6 (I, oI) (.tail _ (.tail _ (.tail _ (List.mem_append_right _ (by repeat' (first | exact List.mem_append_right _ hoI | apply List.Mem.tail))))))).1
        rw [e1, a2] at a1
        cases a1
        exact absurd hv (hoN _ hd _ _)
  refine hnext _ _ _ D t1 t2 n p1' p2' (ex.filter (fun q => decide (q.1 ≠ 159 ∧ q.1 ≠ I)) ++ tl) ⟨⟨rfl, ⟨_, rfl⟩, ⟨_, rfl⟩, ⟨_, rfl⟩, ⟨_, rfl⟩, ⟨_, rfl⟩, rfl⟩, ⟨_, rfl⟩, ⟨_, by rw [← htc]; rfl⟩, rfl⟩ (tabN_part T1' (hpart _)) (tabN_part T2' (hpart _)) (fun q hq => List.mem_append_right _ (htn q hq)) ?_ ?_ F6 ?_
  · intro q hq
    rcases List.mem_append.mp hq with hq | hq
    · obtain ⟨q1, q2⟩ := List.mem_filter.mp hq
      have q3 := of_decide_eq_true q2
      exact ⟨(hex q q1).2, (hex q q1).1, q3.1, q3.2⟩
    · exact ⟨(htl q hq).1, (htl q hq).2.1, (htl q hq).2.2, hnI q (by repeat' (first | exact hq | apply List.Mem.tail))⟩
  · intro e1
    exact hne _ (by repeat' (first | exact List.mem_append_right _ hoI | apply List.Mem.tail)) e1.symm
  · intro q hq
    refine N6 q ?_
    exact mem_end [_, _, _] [_, _, _, _, _, _, _, _] _ _ (fun q hq => (List.mem_filter.mp hq).1) hq
theorem all (v : V) : P v := byEps (v0 := v0) (by unfold v0; rfl) main v
end ksegR
theorem segR {fa : Addr} {w : World} {A : Around} {p : Program} {loose : List Str} {mean : ExcName → Option Value} {mg : Str → Option Value} {mb : Str → Option Value} {g : Heap} {L : Nat} {nm qual : Str} {ps : Arguments} {body : List Stmt} {sc : Scope} {dV kV doc pm cdv ct oc : Value} {an od : Option Addr} {osl : Array (Option Value)} {f e rd C : Nat} {ys ts : List Value} {ns : List Int} {Dt : Addr} {tn : List (Addr × Obj)} {Dd : Addr} {ds : List Value} {o3 o4 o5 o6 : Obj} {top : Int} {st : Nat} {db : Addr} (hK : (hd.heap_39 w.params).lookup 162 = some ⟨oc, od, .func (fnOf nm qual ps body sc dV kV doc pm an cdv ct), osl⟩) (X : (hd.heap_39 w.params).In g) (T : Top p loose mean mg mb g) (hh : A.handled = none) (hroom : A.depth + 60 < recursionLimit) (hL : 159 < L) (hR : RingOk (ringL ns)) {i : Nat} {dl tc op : Nat} (hdl : top - dotI (ringL ns) ns i = (dl : Int)) (h2 : 2 * dl = tc + (ringL ns).length * op) (hop : op ≤ 4) (htc : ((st : Int) - (i : Int)).fmod ((ringL ns).length : Int) = (tc : Int)) (htcN : tc < (ringL ns).length) {W : Nat} (hW2 : 2 ≤ W) (hW : W ≤ 4401) (hf1 : 2 ^ W ≤ f) (hf2 : f < 2 ^ (W + 1)) (he : e < 2 ^ W) (hrd : rd < 2 ^ (2 * W + 9)) (C1 : CodeHd g 72 68) (C2 : CodeHd g 79 75) {tgt it : Expr} {bd more : List Stmt} {pp : Pos} (hbody : body.drop 15 = .For tgt it bd [] pp :: more) {Q : Flow → Shared → Prop} {E : Value → Shared → Prop} {s : Shared} {I : Addr} {t : Tok} {m₂ : Str → Option Value} {nn : Nat} {p1 p2 : Array Value} {tl own : List (Addr × Obj)} (hi : i < (ringL ns).length) (hk : m₂ (Str.ofString "k") = some (.int (i : Int) t)) (lo : LocE m₂ f e rd Dt top st db) (T1 : TN68 g tl p1) (T2 : TN75 g tl p2) (htn : ∀ q ∈ tn, q ∈ tl) (htl : ∀ q ∈ tl, q.1 ≠ 75 ∧ q.1 ≠ 68 ∧ q.1 ≠ 159) (hown : ∀ q ∈ own, q.1 = I) (hIo : ∃ o, (I, o) ∈ own ∧ NoC o) (hnI : ∀ q ∈ (75, tabObj p2) :: (68, tabObj p1) :: (Dd, LCg.lst ds) :: (Dt, LCg.lst ts) :: (C, listOf ys.toArray nn) :: (L + 1 + 1 + 1 + 1 + 1 + 1, o6) :: (L + 1 + 1 + 1 + 1 + 1, o5) :: (L + 1 + 1 + 1 + 1, o4) :: (L + 1 + 1 + 1, o3) :: (159, tabObj #[]) :: tl, q.1 ≠ I) (hI1 : I ≠ 75) (hI2 : I ≠ 68) (le : LedE L C ys ns Dt ts Dd ds o3 o4 o5 o6 tn) (F : Fr g L s.heap m₂) (N : News g L s.heap ((75, tabObj p2) :: (68, tabObj p1) :: (Dd, LCg.lst ds) :: (Dt, LCg.lst ts) :: (C, listOf ys.toArray nn) :: (L + 1 + 1 + 1 + 1 + 1 + 1, o6) :: (L + 1 + 1 + 1 + 1 + 1, o5) :: (L + 1 + 1 + 1 + 1, o4) :: (L + 1 + 1 + 1, o3) :: (159, tabObj #[]) :: (tl ++ own))) (hnext : ∀ h' tk' (m' : Str → Option Value) D t1 t2 n p1' p2' tl', LocR m' f e rd Dt top st db i tc D → TN68 g tl' p1' → TN75 g tl' p2' → (∀ q ∈ tn, q ∈ tl') → (∀ q ∈ tl', q.1 ≠ 75 ∧ q.1 ≠ 68 ∧ q.1 ≠ 159 ∧ q.1 ≠ I) → D ≠ I → Fr g L h' m' →
      News g L h' ((D, { cls := .type "tuple", data := .seq #[.int ((op + rd : Nat) : Int) t1, .int ((tc * f + e : Nat) : Int) t2] n }) :: (75, tabObj p2') :: (68, tabObj p1') :: (Dd, LCg.lst ds) :: (Dt, LCg.lst ts) :: (C, listOf ys.toArray nn) :: (L + 1 + 1 + 1 + 1 + 1 + 1, o6) :: (L + 1 + 1 + 1 + 1 + 1, o5) :: (L + 1 + 1 + 1 + 1, o4) :: (L + 1 + 1 + 1, o3) :: (159, tabObj #[]) :: (tl' ++ own)) →
      wpAny (model PySem.Challenge.rw_rs0108_01.row.prog w) (A.deeper (envOfC nm sc L fa (.ref 161))) (execs (bd.drop 3) (envOfC nm sc L fa (.ref 161))) Q E { s with heap := h', toks := tk' }) :
    wpAny (model PySem.Challenge.rw_rs0108_01.row.prog w) (A.deeper (envOfC nm sc L fa (.ref 161))) (execs (bd.drop 1) (envOfC nm sc L fa (.ref 161))) Q E s := ksegR.all (fa, w, A, p, loose, mean, mg, mb, g, L, f, e, rd, C, ys, ts, ns, Dt, tn, Dd, ds, o3, o4, o5, o6, top, st, db, i, dl, tc, op, W, Q, E, s, t, m₂, nn, p1, p2, tl, own) nm qual ps body sc dV kV doc pm cdv ct oc an od osl hK X T hh hroom hL hR hdl h2 hop htc htcN hW2 hW hf1 hf2 he hrd C1 C2 tgt it bd more pp hbody I hi hk lo T1 T2 htn htl hown hIo hnI hI1 hI2 le F N hnext
end
end Mine
end
-- part LawS
section
open PySem PySem.W PySem.Calls PyProof.Rows
namespace Mine
/-- the locals behind the quotient -/
structure LocS (m : Str → Option Value) (f e rd : Nat) (Dt : Addr) (top : Int) (st : Nat) (db : Addr) (i tc op : Nat) : Prop where
  loc : LocE m f e rd Dt top st db
  k : ∃ t, m (Str.ofString "k") = some (.int (i : Int) t)
  to : ∃ t, m (Str.ofString "to_come") = some (.int (tc : Int) t)
  opened : ∃ t, m (Str.ofString "opened") = some (.int (op : Int) t)
section
variable {fa : Addr} {w : World} {A : Around} {p : Program} {loose : List Str} {mean : ExcName → Option Value} {mg mb : Str → Option Value} {g : Heap} {L : Nat}
theorem ne_tups {s : Shared} {D D2 : Addr} {a b : Int} {t u t' u' : Tok} {n n' : Nat} {Q : Value → Shared → Prop} {E : Value → Shared → Prop} {prog : Program} {B : Around} (h1 : s.heap.get? D = some { cls := .type "tuple", data := .seq #[.int a t, .int b u] n }) (h2 : s.heap.get? D2 = some { cls := .type "tuple", data := .seq #[.int a t', .int b u'] n' }) (hu : B.units + 64 < cLine)
    (h : Q (.bool false) s) : wpAny (model prog w) B (compareOp .NotEq (.ref D) (.ref D2)) Q E s := by
  have sh : SeqAt.shaped (.tuple [.int a, .int b]) = true := by simp [SeqAt.shaped, PyData.canLay0, PyData.canLayAll0, PyData.depth, PyData.depthAll]
  refine ne_dataH (reads_tuple_at h1 rfl rfl (.cons (.int _ _) (.cons (.int _ _) .nil))) (reads_tuple_at h2 rfl rfl (.cons (.int _ _) (.cons (.int _ _) .nil))) sh sh hu ?_
  simpa [PyData.eqv, PyData.eqvAll] using h
end
section
namespace ksegS
noncomputable abbrev V := (Addr) × (World) × (Around) × (Program) × (List Str) × (ExcName → Option Value) × (Str → Option Value) × (Str → Option Value) × (Heap) × (Nat) × (List Value) × (List Value) × (List Int) × (Addr) × (List (Addr × Obj)) × (Addr) × (List Value) × (Obj) × (Obj) × (Obj) × (Obj) × (Int) × (Nat) × (Addr) × (Nat) × (Flow → Shared → Prop) × (Value → Shared → Prop) × (Shared) × (Str → Option Value) × (Nat) × (Array Value) × (Array Value) × (Addr) × (Tok) × (Tok) × (Nat) × (List (Addr × Obj))
noncomputable def P (v : V) : Prop :=
  (fun (fa : Addr) (w : World) (A : Around) (p : Program) (loose : List Str) (mean : ExcName → Option Value) (mg : Str → Option Value) (mb : Str → Option Value) (g : Heap) (L : Nat) (ys : List Value) (ts : List Value) (ns : List Int) (Dt : Addr) (tn : List (Addr × Obj)) (Dd : Addr) (ds : List Value) (o3 : Obj) (o4 : Obj) (o5 : Obj) (o6 : Obj) (top : Int) (st : Nat) (db : Addr) (W : Nat) (Q : Flow → Shared → Prop) (E : Value → Shared → Prop) (s : Shared) (m₂ : Str → Option Value) (nn : Nat) (p1 : Array Value) (p2 : Array Value) (D : Addr) (t1 : Tok) (t2 : Tok) (n : Nat) (tl : List (Addr × Obj)) =>
  ∀ (nm qual : Str) (ps : Arguments) (body : List Stmt) (sc : Scope) (dV kV doc pm cdv ct oc : Value) (an od : Option Addr) (osl : Array (Option Value)) (f e rd C : Nat) (hK : (hd.heap_39 w.params).lookup 162 = some ⟨oc, od, .func (fnOf nm qual ps body sc dV kV doc pm an cdv ct), osl⟩) (X : (hd.heap_39 w.params).In g) (T : Top p loose mean mg mb g) (hh : A.handled = none) (hroom : A.depth + 60 < recursionLimit) (hL : 159 < L) (hun : ∀ env, (A.deeper env).units + 64 < cLine) (i tc op : Nat) (hop : op ≤ 4) (hW : W ≤ 4401) (hf2 : f < 2 ^ (W + 1)) (htcN : tc < 9) (tgt it : Expr) (bd more : List Stmt) (pp : Pos) (hbody : body.drop 15 = .For tgt it bd [] pp :: more) (lo : LocR m₂ f e rd Dt top st db i tc D) (F : Fr g L s.heap m₂) (N : News g L s.heap ((D, { cls := .type "tuple", data := .seq #[.int ((op + rd : Nat) : Int) t1, .int ((tc * f + e : Nat) : Int) t2] n }) :: (75, tabObj p2) :: (68, tabObj p1) :: (Dd, LCg.lst ds) :: (Dt, LCg.lst ts) :: (C, listOf ys.toArray nn) :: (L + 1 + 1 + 1 + 1 + 1 + 1, o6) :: (L + 1 + 1 + 1 + 1 + 1, o5) :: (L + 1 + 1 + 1 + 1, o4) :: (L + 1 + 1 + 1, o3) :: (159, tabObj #[]) :: tl)) (hnext : ∀ h' tk' (m' : Str → Option Value), LocS m' f e rd Dt top st db i tc op → Fr g L h' m' → News g L h' ((75, tabObj p2) :: (68, tabObj p1) :: (Dd, LCg.lst ds) :: (Dt, LCg.lst ts) :: (C, listOf ys.toArray nn) :: (L + 1 + 1 + 1 + 1 + 1 + 1, o6) :: (L + 1 + 1 + 1 + 1 + 1, o5) :: (L + 1 + 1 + 1 + 1, o4) :: (L + 1 + 1 + 1, o3) :: (159, tabObj #[]) :: tl) →
      wpAny (model PySem.Challenge.rw_rs0108_01.row.prog w) (A.deeper (envOfC nm sc L fa (.ref 161))) (execs (bd.drop 5) (envOfC nm sc L fa (.ref 161))) Q E { s with heap := h', toks := tk' }), wpAny (model PySem.Challenge.rw_rs0108_01.row.prog w) (A.deeper (envOfC nm sc L fa (.ref 161))) (execs (bd.drop 3) (envOfC nm sc L fa (.ref 161))) Q E s)
    v.1 v.2.1 v.2.2.1 v.2.2.2.1 v.2.2.2.2.1 v.2.2.2.2.2.1 v.2.2.2.2.2.2.1 v.2.2.2.2.2.2.2.1 v.2.2.2.2.2.2.2.2.1 v.2.2.2.2.2.2.2.2.2.1 v.2.2.2.2.2.2.2.2.2.2.1 v.2.2.2.2.2.2.2.2.2.2.2.1 v.2.2.2.2.2.2.2.2.2.2.2.2.1 v.2.2.2.2.2.2.2.2.2.2.2.2.2.1 v.2.2.2.2.2.2.2.2.2.2.2.2.2.2.1 v.2.2.2.2.2.2.2.2.2.2.2.2.2.2.2.1 v.2.2.2.2.2.2.2.2.2.2.2.2.2.2.2.2.1 v.2.2.2.2.2.2.2.2.2.2.2.2.2.2.2.2.2.1 v.2.2.2.2.2.2.2.2.2.2.2.2.2.2.2.2.2.2.1 v.2.2.2.2.2.2.2.2.2.2.2.2.2.2.2.2.2.2.2.1 v.2.2.2.2.2.2.2.2.2.2.2.2.2.2.2.2.2.2.2.2.1 v.2.2.2.2.2.2.2.2.2.2.2.2.2.2.2.2.2.2.2.2.2.1 v.2.2.2.2.2.2.2.2.2.2.2.2.2.2.2.2.2.2.2.2.2.2.1 v.2.2.2.2.2.2.2.2.2.2.2.2.2.2.2.2.2.2.2.2.2.2.2.1 v.2.2.2.2.2.2.2.2.2.2.2.2.2.2.2.2.2.2.2.2.2.2.2.2.1 v.2.2.2.2.2.2.2.2.2.2.2.2.2.2.2.2.2.2.2.2.2.2.2.2.2.1 v.2.2.2.2.2.2.2.2.2.2.2.2.2.2.2.2.2.2.2.2.2.2.2.2.2.2.1 v.2.2.2.2.2.2.2.2.2.2.2.2.2.2.2.2.2.2.2.2.2.2.2.2.2.2.2.1 v.2.2.2.2.2.2.2.2.2.2.2.2.2.2.2.2.2.2.2.2.2.2.2.2.2.2.2.2.1 v.2.2.2.2.2.2.2.2.2.2.2.2.2.2.2.2.2.2.2.2.2.2.2.2.2.2.2.2.2.1 v.2.2.2.2.2.2.2.2.2.2.2.2.2.2.2.2.2.2.2.2.2.2.2.2.2.2.2.2.2.2.1 v.2.2.2.2.2.2.2.2.2.2.2.2.2.2.2.2.2.2.2.2.2.2.2.2.2.2.2.2.2.2.2.1 v.2.2.2.2.2.2.2.2.2.2.2.2.2.2.2.2.2.2.2.2.2.2.2.2.2.2.2.2.2.2.2.2.1 v.2.2.2.2.2.2.2.2.2.2.2.2.2.2.2.2.2.2.2.2.2.2.2.2.2.2.2.2.2.2.2.2.2.1 v.2.2.2.2.2.2.2.2.2.2.2.2.2.2.2.2.2.2.2.2.2.2.2.2.2.2.2.2.2.2.2.2.2.2.1 v.2.2.2.2.2.2.2.2.2.2.2.2.2.2.2.2.2.2.2.2.2.2.2.2.2.2.2.2.2.2.2.2.2.2.2.1 v.2.2.2.2.2.2.2.2.2.2.2.2.2.2.2.2.2.2.2.2.2.2.2.2.2.2.2.2.2.2.2.2.2.2.2.2
@[irreducible] noncomputable def v0 : V := @Classical.epsilon V ⟨(0, aW, callerA, PySem.Challenge.rw_rs0108_01.row.prog, [], fun _ => none, fun _ => none, fun _ => none, {}, 0, [], [], [], 0, [], 0, [], { cls := .none, data := .cell none }, { cls := .none, data := .cell none }, { cls := .none, data := .cell none }, { cls := .none, data := .cell none }, 0, 0, 0, 0, fun _ _ => True, fun _ _ => True, {}, fun _ => none, 0, #[], #[], 0, 0, 0, 0, [])⟩ fun v => ¬ P v
noncomputable def fa : Addr := v0.1
noncomputable def w : World := v0.2.1
noncomputable def A : Around := v0.2.2.1
noncomputable def p : Program := v0.2.2.2.1
noncomputable def loose : List Str := v0.2.2.2.2.1
noncomputable def mean : ExcName → Option Value := v0.2.2.2.2.2.1
noncomputable def mg : Str → Option Value := v0.2.2.2.2.2.2.1
noncomputable def mb : Str → Option Value := v0.2.2.2.2.2.2.2.1
noncomputable def g : Heap := v0.2.2.2.2.2.2.2.2.1
noncomputable def L : Nat := v0.2.2.2.2.2.2.2.2.2.1
noncomputable def ys : List Value := v0.2.2.2.2.2.2.2.2.2.2.1
noncomputable def ts : List Value := v0.2.2.2.2.2.2.2.2.2.2.2.1
noncomputable def ns : List Int := v0.2.2.2.2.2.2.2.2.2.2.2.2.1
noncomputable def Dt : Addr := v0.2.2.2.2.2.2.2.2.2.2.2.2.2.1
noncomputable def tn : List (Addr × Obj) := v0.2.2.2.2.2.2.2.2.2.2.2.2.2.2.1
noncomputable def Dd : Addr := v0.2.2.2.2.2.2.2.2.2.2.2.2.2.2.2.1
noncomputable def ds : List Value := v0.2.2.2.2.2.2.2.2.2.2.2.2.2.2.2.2.1
noncomputable def o3 : Obj := v0.2.2.2.2.2.2.2.2.2.2.2.2.2.2.2.2.2.1
noncomputable def o4 : Obj := v0.2.2.2.2.2.2.2.2.2.2.2.2.2.2.2.2.2.2.1
noncomputable def o5 : Obj := v0.2.2.2.2.2.2.2.2.2.2.2.2.2.2.2.2.2.2.2.1
noncomputable def o6 : Obj := v0.2.2.2.2.2.2.2.2.2.2.2.2.2.2.2.2.2.2.2.2.1
noncomputable def top : Int := v0.2.2.2.2.2.2.2.2.2.2.2.2.2.2.2.2.2.2.2.2.2.1
noncomputable def st : Nat := v0.2.2.2.2.2.2.2.2.2.2.2.2.2.2.2.2.2.2.2.2.2.2.1
noncomputable def db : Addr := v0.2.2.2.2.2.2.2.2.2.2.2.2.2.2.2.2.2.2.2.2.2.2.2.1
noncomputable def W : Nat := v0.2.2.2.2.2.2.2.2.2.2.2.2.2.2.2.2.2.2.2.2.2.2.2.2.1
noncomputable def Q : Flow → Shared → Prop := v0.2.2.2.2.2.2.2.2.2.2.2.2.2.2.2.2.2.2.2.2.2.2.2.2.2.1
noncomputable def E : Value → Shared → Prop := v0.2.2.2.2.2.2.2.2.2.2.2.2.2.2.2.2.2.2.2.2.2.2.2.2.2.2.1
noncomputable def s : Shared := v0.2.2.2.2.2.2.2.2.2.2.2.2.2.2.2.2.2.2.2.2.2.2.2.2.2.2.2.1
noncomputable def m₂ : Str → Option Value := v0.2.2.2.2.2.2.2.2.2.2.2.2.2.2.2.2.2.2.2.2.2.2.2.2.2.2.2.2.1
noncomputable def nn : Nat := v0.2.2.2.2.2.2.2.2.2.2.2.2.2.2.2.2.2.2.2.2.2.2.2.2.2.2.2.2.2.1
noncomputable def p1 : Array Value := v0.2.2.2.2.2.2.2.2.2.2.2.2.2.2.2.2.2.2.2.2.2.2.2.2.2.2.2.2.2.2.1
noncomputable def p2 : Array Value := v0.2.2.2.2.2.2.2.2.2.2.2.2.2.2.2.2.2.2.2.2.2.2.2.2.2.2.2.2.2.2.2.1
noncomputable def D : Addr := v0.2.2.2.2.2.2.2.2.2.2.2.2.2.2.2.2.2.2.2.2.2.2.2.2.2.2.2.2.2.2.2.2.1
noncomputable def t1 : Tok := v0.2.2.2.2.2.2.2.2.2.2.2.2.2.2.2.2.2.2.2.2.2.2.2.2.2.2.2.2.2.2.2.2.2.1
noncomputable def t2 : Tok := v0.2.2.2.2.2.2.2.2.2.2.2.2.2.2.2.2.2.2.2.2.2.2.2.2.2.2.2.2.2.2.2.2.2.2.1
noncomputable def n : Nat := v0.2.2.2.2.2.2.2.2.2.2.2.2.2.2.2.2.2.2.2.2.2.2.2.2.2.2.2.2.2.2.2.2.2.2.2.1
noncomputable def tl : List (Addr × Obj) := v0.2.2.2.2.2.2.2.2.2.2.2.2.2.2.2.2.2.2.2.2.2.2.2.2.2.2.2.2.2.2.2.2.2.2.2.2
set_option maxHeartbeats 8000000 in
theorem main (nm qual : Str) (ps : Arguments) (body : List Stmt) (sc : Scope) (dV kV doc pm cdv ct oc : Value) (an od : Option Addr) (osl : Array (Option Value)) (f e rd C : Nat) (hK : (hd.heap_39 w.params).lookup 162 = some ⟨oc, od, .func (fnOf nm qual ps body sc dV kV doc pm an cdv ct), osl⟩) (X : (hd.heap_39 w.params).In g) (T : Top p loose mean mg mb g) (hh : A.handled = none) (hroom : A.depth + 60 < recursionLimit) (hL : 159 < L) (hun : ∀ env, (A.deeper env).units + 64 < cLine) (i tc op : Nat) (hop : op ≤ 4) (hW : W ≤ 4401) (hf2 : f < 2 ^ (W + 1)) (htcN : tc < 9) (tgt it : Expr) (bd more : List Stmt) (pp : Pos) (hbody : body.drop 15 = .For tgt it bd [] pp :: more) (lo : LocR m₂ f e rd Dt top st db i tc D) (F : Fr g L s.heap m₂) (N : News g L s.heap ((D, { cls := .type "tuple", data := .seq #[.int ((op + rd : Nat) : Int) t1, .int ((tc * f + e : Nat) : Int) t2] n }) :: (75, tabObj p2) :: (68, tabObj p1) :: (Dd, LCg.lst ds) :: (Dt, LCg.lst ts) :: (C, listOf ys.toArray nn) :: (L + 1 + 1 + 1 + 1 + 1 + 1, o6) :: (L + 1 + 1 + 1 + 1 + 1, o5) :: (L + 1 + 1 + 1 + 1, o4) :: (L + 1 + 1 + 1, o3) :: (159, tabObj #[]) :: tl)) (hnext : ∀ h' tk' (m' : Str → Option Value), LocS m' f e rd Dt top st db i tc op → Fr g L h' m' → News g L h' ((75, tabObj p2) :: (68, tabObj p1) :: (Dd, LCg.lst ds) :: (Dt, LCg.lst ts) :: (C, listOf ys.toArray nn) :: (L + 1 + 1 + 1 + 1 + 1 + 1, o6) :: (L + 1 + 1 + 1 + 1 + 1, o5) :: (L + 1 + 1 + 1 + 1, o4) :: (L + 1 + 1 + 1, o3) :: (159, tabObj #[]) :: tl) →
      wpAny (model PySem.Challenge.rw_rs0108_01.row.prog w) (A.deeper (envOfC nm sc L fa (.ref 161))) (execs (bd.drop 5) (envOfC nm sc L fa (.ref 161))) Q E { s with heap := h', toks := tk' }) :
    wpAny (model PySem.Challenge.rw_rs0108_01.row.prog w) (A.deeper (envOfC nm sc L fa (.ref 161))) (execs (bd.drop 3) (envOfC nm sc L fa (.ref 161))) Q E s := by
  w_top off
  revert hK X
  k_fill
  intro hK X
  refine look_parts hK (by k_is) ?_
  rintro rfl rfl rfl
  clear hK
  refine for_parts hbody rfl ?_
  rintro rfl rfl
  clear hbody
  obtain ⟨⟨lt, ⟨tf, lf⟩, ⟨te, lx⟩, ⟨tr, lr⟩, ⟨tt, lp⟩, ⟨tst, lst⟩, lb⟩, ⟨tk, lk⟩, ⟨tto, lto⟩, ltd⟩ := lo
  have F12 := fr_known (k := Str.ofString "told") (fr_known (k := Str.ofString "to_come") (fr_known (k := Str.ofString "best") (fr_known (k := Str.ofString "start") (fr_known (k := Str.ofString "top") (fr_known (k := Str.ofString "rounds") (fr_known (k := Str.ofString "extra") (fr_known (k := Str.ofString "factor") (fr_known (k := Str.ofString "turns") (fr_known (k := Str.ofString "k") F lk) lt) lf) lx) lr) lp) lst) lb) lto) ltd
  clear F
  have ktc : bitsN tc ≤ 2 ^ 20 := bitsN_le.mpr (Nat.lt_of_lt_of_le htcN (Nat.le_trans (by decide : 9 ≤ 2 ^ 4) (Nat.pow_le_pow_right (by decide) (by decide))))
  have kf : bitsN f ≤ 2 ^ 20 := Nat.le_trans (bitsN_le.mpr hf2) (by omega)
  clear hf2
  dsimp only [List.drop] at hnext ⊢
  refine wp_cut 1 _ ?_
  dsimp only [List.take, List.drop]
  repeat' (first | ((with_reducible show wpAny _ _ (compareOp .NotEq (.ref _) (.ref _)) _ _ _); refine ne_tups (News.get ‹_› (.tail _ (.head _))) (News.get ‹_› (.head _)) (by exact ‹∀ env, (Around.deeper _ env).units + 64 < cLine› _) ?_) | ((with_reducible show wpAny _ _ (binaryOp _ (.int _ _) (.int _ _)) _ _ _); first | with_reducible (refine addN ?_) | with_reducible (refine mulN ?_ ‹_› ‹_›)) | walk1)
  refine .mk ?_
  rename Fr _ _ _ _ => F3
  rename News _ _ _ _ => N3
  rw [show ((op + rd : Nat) : Int) - (rd : Int) = (op : Int) by push_cast; omega] at F3
  refine wp_cut 1 _ ?_
  dsimp only [List.take, List.drop]
  repeat' (first | ((with_reducible show wpAny _ _ (compareOp .NotEq (.ref _) (.ref _)) _ _ _); refine ne_tups (News.get ‹_› (.tail _ (.head _))) (News.get ‹_› (.head _)) (by exact ‹∀ env, (Around.deeper _ env).units + 64 < cLine› _) ?_) | ((with_reducible show wpAny _ _ (binaryOp _ (.int _ _) (.int _ _)) _ _ _); first | with_reducible (refine addN ?_) | with_reducible (refine mulN ?_ ‹_› ‹_›)) | walk1)
  refine .mk ?_
  rename Fr _ _ _ _ => F4
  rename News _ _ _ _ => N4
  refine hnext _ _ _ ⟨⟨rfl, ⟨_, rfl⟩, ⟨_, rfl⟩, ⟨_, rfl⟩, ⟨_, rfl⟩, ⟨_, rfl⟩, rfl⟩, ⟨_, rfl⟩, ⟨_, rfl⟩, ⟨_, rfl⟩⟩ F4 ?_
  intro q hq
  exact N4 q (by first | exact .tail _ (.tail _ hq) | exact .tail _ hq)
theorem all (v : V) : P v := byEps (v0 := v0) (by unfold v0; rfl) main v
end ksegS
theorem segS {fa : Addr} {w : World} {A : Around} {p : Program} {loose : List Str} {mean : ExcName → Option Value} {mg : Str → Option Value} {mb : Str → Option Value} {g : Heap} {L : Nat} {nm qual : Str} {ps : Arguments} {body : List Stmt} {sc : Scope} {dV kV doc pm cdv ct oc : Value} {an od : Option Addr} {osl : Array (Option Value)} {f e rd C : Nat} {ys ts : List Value} {ns : List Int} {Dt : Addr} {tn : List (Addr × Obj)} {Dd : Addr} {ds : List Value} {o3 o4 o5 o6 : Obj} {top : Int} {st : Nat} {db : Addr} (hK : (hd.heap_39 w.params).lookup 162 = some ⟨oc, od, .func (fnOf nm qual ps body sc dV kV doc pm an cdv ct), osl⟩) (X : (hd.heap_39 w.params).In g) (T : Top p loose mean mg mb g) (hh : A.handled = none) (hroom : A.depth + 60 < recursionLimit) (hL : 159 < L) (hun : ∀ env, (A.deeper env).units + 64 < cLine) {i tc op : Nat} (hop : op ≤ 4) {W : Nat} (hW : W ≤ 4401) (hf2 : f < 2 ^ (W + 1)) (htcN : tc < 9) {tgt it : Expr} {bd more : List Stmt} {pp : Pos} (hbody : body.drop 15 = .For tgt it bd [] pp :: more) {Q : Flow → Shared → Prop} {E : Value → Shared → Prop} {s : Shared} {m₂ : Str → Option Value} {nn : Nat} {p1 p2 : Array Value} {D : Addr} {t1 t2 : Tok} {n : Nat} {tl : List (Addr × Obj)} (lo : LocR m₂ f e rd Dt top st db i tc D) (F : Fr g L s.heap m₂) (N : News g L s.heap ((D, { cls := .type "tuple", data := .seq #[.int ((op + rd : Nat) : Int) t1, .int ((tc * f + e : Nat) : Int) t2] n }) :: (75, tabObj p2) :: (68, tabObj p1) :: (Dd, LCg.lst ds) :: (Dt, LCg.lst ts) :: (C, listOf ys.toArray nn) :: (L + 1 + 1 + 1 + 1 + 1 + 1, o6) :: (L + 1 + 1 + 1 + 1 + 1, o5) :: (L + 1 + 1 + 1 + 1, o4) :: (L + 1 + 1 + 1, o3) :: (159, tabObj #[]) :: tl)) (hnext : ∀ h' tk' (m' : Str → Option Value), LocS m' f e rd Dt top st db i tc op → Fr g L h' m' → News g L h' ((75, tabObj p2) :: (68, tabObj p1) :: (Dd, LCg.lst ds) :: (Dt, LCg.lst ts) :: (C, listOf ys.toArray nn) :: (L + 1 + 1 + 1 + 1 + 1 + 1, o6) :: (L + 1 + 1 + 1 + 1 + 1, o5) :: (L + 1 + 1 + 1 + 1, o4) :: (L + 1 + 1 + 1, o3) :: (159, tabObj #[]) :: tl) →
      wpAny (model PySem.Challenge.rw_rs0108_01.row.prog w) (A.deeper (envOfC nm sc L fa (.ref 161))) (execs (bd.drop 5) (envOfC nm sc L fa (.ref 161))) Q E { s with heap := h', toks := tk' }) :
    wpAny (model PySem.Challenge.rw_rs0108_01.row.prog w) (A.deeper (envOfC nm sc L fa (.ref 161))) (execs (bd.drop 3) (envOfC nm sc L fa (.ref 161))) Q E s := ksegS.all (fa, w, A, p, loose, mean, mg, mb, g, L, ys, ts, ns, Dt, tn, Dd, ds, o3, o4, o5, o6, top, st, db, W, Q, E, s, m₂, nn, p1, p2, D, t1, t2, n, tl) nm qual ps body sc dV kV doc pm cdv ct oc an od osl f e rd C hK X T hh hroom hL hun i tc op hop hW hf2 htcN tgt it bd more pp hbody lo F N hnext
end
end Mine
end
-- part LawT
section
open PySem PySem.W PySem.Calls PyProof.Rows
namespace Mine
theorem mul_par (n : Int) : Txt.mul (Str.ofString ")") n = mkS (List.replicate n.toNat 41) := by
  have fr : ∀ (n : Nat) (a : Array Nat), (List.replicate n (#[41] : Array Nat)).foldl (· ++ ·) a = a ++ (List.replicate n 41).toArray := by
    intro n
    induction n with
    | zero => intro a; simp
    | succ n ih =>
      intro a
      rw [List.replicate_succ, List.foldl_cons, ih, List.replicate_succ]
      apply Array.ext'
      simp
  rw [show Str.ofString ")" = mkS [41] by decide +kernel]
  unfold Txt.mul
  split
  · rename_i h
    have : n.toNat = 0 := by omega
    rw [this]; rfl
  · split
    · rename_i h1 h2
      have h3 : n = 1 := by simpa [mkS, Str.length] using h2
      subst h3
      rfl
    · have := fr n.toNat #[]
      rw [show (mkS [41]).cps = #[41] from rfl, this]
      simp [mkS]
section
variable {fa : Addr} {w : World} {A : Around} {p : Program} {loose : List Str} {mean : ExcName → Option Value} {mg mb : Str → Option Value} {g : Heap} {L : Nat}
theorem cells_at {s : Shared} {E : Value → Shared → Prop} {news : List (Addr × Obj)} {C : Addr} {ys : List Value} {nn : Nat} {ns : List Int} {i : Nat} {u : Tok} {value slice : Expr} {Q : Value → Shared → Prop} (N : News g L s.heap news) (hm : (C, listOf ys.toArray nn) ∈ news) (hys : IntsAre ys ns) (h11 : ns.length = 11) (hi : i < 9)
    (h : ∀ t', Q (.int (ns.getD i 0) t') s)
    (hs : subscripted slice false (.ref C) (.int (i : Int) u) = operate [.ref C, .int (i : Int) u] (getItem (.ref C) (.int (i : Int) u)) := by with_unfolding_all rfl) (hg : ∀ r, letTemporaryGo value (.ref C) r = pure () := by intro _; with_unfolding_all rfl) :
    wpAny (model PySem.Challenge.rw_rs0108_01.row.prog w) A (subscriptTail value slice (.ref C) (.int (i : Int) u)) Q E s := by
  have hx : ns[i]? = some (ns.getD i 0) := by rw [List.getD_eq_getElem?_getD, List.getElem?_eq_getElem (by omega)]; rfl
  obtain ⟨t', ht'⟩ := hys.get i _ hx
  exact item_list (News.isList N hm) (Int.natCast_nonneg _) (by omega) (by rw [Int.toNat_natCast, List.getElem?_toArray]; exact ht') (h t') hs hg
end
section
namespace ksegT
noncomputable abbrev V := (Addr) × (World) × (Around) × (Program) × (List Str) × (ExcName → Option Value) × (Str → Option Value) × (Str → Option Value) × (Heap) × (Nat) × (Nat) × (Nat) × (Nat) × (Nat) × (List Value) × (List Value) × (List Int) × (Addr) × (List (Addr × Obj)) × (Addr) × (List Value) × (Obj) × (Obj) × (Obj) × (Obj) × (Int) × (Nat) × (Addr) × (List Value) × (Nat) × (Nat) × (Nat) × (Nat) × (Result → Shared → Prop) × (Shared) × (Addr) × (Str → Option Value) × (Heap) × (Nat) × (Array GenState) × (Nat) × (Array Value) × (Array Value) × (List (Addr × Obj)) × (List (Addr × Obj))
noncomputable def P (v : V) : Prop :=
  (fun (fa : Addr) (w : World) (A : Around) (p : Program) (loose : List Str) (mean : ExcName → Option Value) (mg : Str → Option Value) (mb : Str → Option Value) (g : Heap) (L : Nat) (f : Nat) (e : Nat) (rd : Nat) (C : Nat) (ys : List Value) (ts : List Value) (ns : List Int) (Dt : Addr) (tn : List (Addr × Obj)) (Dd : Addr) (ds : List Value) (o3 : Obj) (o4 : Obj) (o5 : Obj) (o6 : Obj) (top : Int) (st : Nat) (db : Addr) (vb : List Value) (nb : Nat) (i : Nat) (tc : Nat) (op : Nat) (R : Result → Shared → Prop) (s₀ : Shared) (I : Addr) (m₂ : Str → Option Value) (h : Heap) (tk : Nat) (gs : Array GenState) (nn : Nat) (p1 : Array Value) (p2 : Array Value) (tl : List (Addr × Obj)) (own : List (Addr × Obj)) =>
  ∀ (nm qual : Str) (ps : Arguments) (body : List Stmt) (sc : Scope) (dV kV doc pm cdv ct oc : Value) (an od : Option Addr) (osl : Array (Option Value)) (hK : (hd.heap_39 w.params).lookup 162 = some ⟨oc, od, .func (fnOf nm qual ps body sc dV kV doc pm an cdv ct), osl⟩) (X : (hd.heap_39 w.params).In g) (T : Top p loose mean mg mb g) (hh : A.handled = none) (hroom : A.depth + 60 < recursionLimit) (hL : 159 < L) (hR : RingOk (ringL ns)) (hop : op ≤ 4) (hi : i < (ringL ns).length) (htcN : tc < (ringL ns).length) (hdb : (db, listOf (List.toArray vb) nb) ∈ tn) (hvb : IntsAre vb (turnI (ringL ns).length st)) (hck : ∀ m, chk (mkS (textL (ringL ns) ns (((turnI (ringL ns).length st).drop 1).take ((ringL ns).length - tc - 1)) ++ 34 :: List.replicate m 41)) = decide (m = op)) (tgt it : Expr) (bd more : List Stmt) (pp : Pos) (hbody : body.drop 15 = .For tgt it bd [] pp :: more) (hgs : AllBare gs) (lo : LocS m₂ f e rd Dt top st db i tc op) (T1 : TN68 g tl p1) (T2 : TN75 g tl p2) (htn : ∀ q ∈ tn, q ∈ tl) (htl : ∀ q ∈ tl, q.1 ≠ 75 ∧ q.1 ≠ 68 ∧ q.1 ≠ 159) (hnI : ∀ q ∈ (75, tabObj p2) :: (68, tabObj p1) :: (Dd, LCg.lst ds) :: (Dt, LCg.lst ts) :: (C, listOf ys.toArray nn) :: (L + 1 + 1 + 1 + 1 + 1 + 1, o6) :: (L + 1 + 1 + 1 + 1 + 1, o5) :: (L + 1 + 1 + 1 + 1, o4) :: (L + 1 + 1 + 1, o3) :: (159, tabObj #[]) :: tl, q.1 ≠ I) (le : LedE L C ys ns Dt ts Dd ds o3 o4 o5 o6 tn) (F : Fr g L h m₂) (N : News g L h ((75, tabObj p2) :: (68, tabObj p1) :: (Dd, LCg.lst ds) :: (Dt, LCg.lst ts) :: (C, listOf ys.toArray nn) :: (L + 1 + 1 + 1 + 1 + 1 + 1, o6) :: (L + 1 + 1 + 1 + 1 + 1, o5) :: (L + 1 + 1 + 1 + 1, o4) :: (L + 1 + 1 + 1, o3) :: (159, tabObj #[]) :: (tl ++ own))), wpAny (model PySem.Challenge.rw_rs0108_01.row.prog w) (A.deeper (envOfC nm sc L fa (.ref 161))) (execs (bd.drop 5) (envOfC nm sc L fa (.ref 161))) (AfterW g L [I] own AllBare s₀ (AtK g L f e rd C nn ys Dt ts tn Dd ds o3 o4 o5 o6 top st db) R) (fun _ _ => False) { s₀ with heap := h, toks := tk, gens := gs })
    v.1 v.2.1 v.2.2.1 v.2.2.2.1 v.2.2.2.2.1 v.2.2.2.2.2.1 v.2.2.2.2.2.2.1 v.2.2.2.2.2.2.2.1 v.2.2.2.2.2.2.2.2.1 v.2.2.2.2.2.2.2.2.2.1 v.2.2.2.2.2.2.2.2.2.2.1 v.2.2.2.2.2.2.2.2.2.2.2.1 v.2.2.2.2.2.2.2.2.2.2.2.2.1 v.2.2.2.2.2.2.2.2.2.2.2.2.2.1 v.2.2.2.2.2.2.2.2.2.2.2.2.2.2.1 v.2.2.2.2.2.2.2.2.2.2.2.2.2.2.2.1 v.2.2.2.2.2.2.2.2.2.2.2.2.2.2.2.2.1 v.2.2.2.2.2.2.2.2.2.2.2.2.2.2.2.2.2.1 v.2.2.2.2.2.2.2.2.2.2.2.2.2.2.2.2.2.2.1 v.2.2.2.2.2.2.2.2.2.2.2.2.2.2.2.2.2.2.2.1 v.2.2.2.2.2.2.2.2.2.2.2.2.2.2.2.2.2.2.2.2.1 v.2.2.2.2.2.2.2.2.2.2.2.2.2.2.2.2.2.2.2.2.2.1 v.2.2.2.2.2.2.2.2.2.2.2.2.2.2.2.2.2.2.2.2.2.2.1 v.2.2.2.2.2.2.2.2.2.2.2.2.2.2.2.2.2.2.2.2.2.2.2.1 v.2.2.2.2.2.2.2.2.2.2.2.2.2.2.2.2.2.2.2.2.2.2.2.2.1 v.2.2.2.2.2.2.2.2.2.2.2.2.2.2.2.2.2.2.2.2.2.2.2.2.2.1 v.2.2.2.2.2.2.2.2.2.2.2.2.2.2.2.2.2.2.2.2.2.2.2.2.2.2.1 v.2.2.2.2.2.2.2.2.2.2.2.2.2.2.2.2.2.2.2.2.2.2.2.2.2.2.2.1 v.2.2.2.2.2.2.2.2.2.2.2.2.2.2.2.2.2.2.2.2.2.2.2.2.2.2.2.2.1 v.2.2.2.2.2.2.2.2.2.2.2.2.2.2.2.2.2.2.2.2.2.2.2.2.2.2.2.2.2.1 v.2.2.2.2.2.2.2.2.2.2.2.2.2.2.2.2.2.2.2.2.2.2.2.2.2.2.2.2.2.2.1 v.2.2.2.2.2.2.2.2.2.2.2.2.2.2.2.2.2.2.2.2.2.2.2.2.2.2.2.2.2.2.2.1 v.2.2.2.2.2.2.2.2.2.2.2.2.2.2.2.2.2.2.2.2.2.2.2.2.2.2.2.2.2.2.2.2.1 v.2.2.2.2.2.2.2.2.2.2.2.2.2.2.2.2.2.2.2.2.2.2.2.2.2.2.2.2.2.2.2.2.2.1 v.2.2.2.2.2.2.2.2.2.2.2.2.2.2.2.2.2.2.2.2.2.2.2.2.2.2.2.2.2.2.2.2.2.2.1 v.2.2.2.2.2.2.2.2.2.2.2.2.2.2.2.2.2.2.2.2.2.2.2.2.2.2.2.2.2.2.2.2.2.2.2.1 v.2.2.2.2.2.2.2.2.2.2.2.2.2.2.2.2.2.2.2.2.2.2.2.2.2.2.2.2.2.2.2.2.2.2.2.2.1 v.2.2.2.2.2.2.2.2.2.2.2.2.2.2.2.2.2.2.2.2.2.2.2.2.2.2.2.2.2.2.2.2.2.2.2.2.2.1 v.2.2.2.2.2.2.2.2.2.2.2.2.2.2.2.2.2.2.2.2.2.2.2.2.2.2.2.2.2.2.2.2.2.2.2.2.2.2.1 v.2.2.2.2.2.2.2.2.2.2.2.2.2.2.2.2.2.2.2.2.2.2.2.2.2.2.2.2.2.2.2.2.2.2.2.2.2.2.2.1 v.2.2.2.2.2.2.2.2.2.2.2.2.2.2.2.2.2.2.2.2.2.2.2.2.2.2.2.2.2.2.2.2.2.2.2.2.2.2.2.2.1 v.2.2.2.2.2.2.2.2.2.2.2.2.2.2.2.2.2.2.2.2.2.2.2.2.2.2.2.2.2.2.2.2.2.2.2.2.2.2.2.2.2.1 v.2.2.2.2.2.2.2.2.2.2.2.2.2.2.2.2.2.2.2.2.2.2.2.2.2.2.2.2.2.2.2.2.2.2.2.2.2.2.2.2.2.2.1 v.2.2.2.2.2.2.2.2.2.2.2.2.2.2.2.2.2.2.2.2.2.2.2.2.2.2.2.2.2.2.2.2.2.2.2.2.2.2.2.2.2.2.2.1 v.2.2.2.2.2.2.2.2.2.2.2.2.2.2.2.2.2.2.2.2.2.2.2.2.2.2.2.2.2.2.2.2.2.2.2.2.2.2.2.2.2.2.2.2
@[irreducible] noncomputable def v0 : V := @Classical.epsilon V ⟨(0, aW, callerA, PySem.Challenge.rw_rs0108_01.row.prog, [], fun _ => none, fun _ => none, fun _ => none, {}, 0, 0, 0, 0, 0, [], [], [], 0, [], 0, [], { cls := .none, data := .cell none }, { cls := .none, data := .cell none }, { cls := .none, data := .cell none }, { cls := .none, data := .cell none }, 0, 0, 0, [], 0, 0, 0, 0, fun _ _ => True, {}, 0, fun _ => none, {}, 0, #[], 0, #[], #[], [], [])⟩ fun v => ¬ P v
noncomputable def fa : Addr := v0.1
noncomputable def w : World := v0.2.1
noncomputable def A : Around := v0.2.2.1
noncomputable def p : Program := v0.2.2.2.1
noncomputable def loose : List Str := v0.2.2.2.2.1
noncomputable def mean : ExcName → Option Value := v0.2.2.2.2.2.1
noncomputable def mg : Str → Option Value := v0.2.2.2.2.2.2.1
noncomputable def mb : Str → Option Value := v0.2.2.2.2.2.2.2.1
noncomputable def g : Heap := v0.2.2.2.2.2.2.2.2.1
noncomputable def L : Nat := v0.2.2.2.2.2.2.2.2.2.1
noncomputable def f : Nat := v0.2.2.2.2.2.2.2.2.2.2.1
noncomputable def e : Nat := v0.2.2.2.2.2.2.2.2.2.2.2.1
noncomputable def rd : Nat := v0.2.2.2.2.2.2.2.2.2.2.2.2.1
noncomputable def C : Nat := v0.2.2.2.2.2.2.2.2.2.2.2.2.2.1
noncomputable def ys : List Value := v0.2.2.2.2.2.2.2.2.2.2.2.2.2.2.1
noncomputable def ts : List Value := v0.2.2.2.2.2.2.2.2.2.2.2.2.2.2.2.1
noncomputable def ns : List Int := v0.2.2.2.2.2.2.2.2.2.2.2.2.2.2.2.2.1
noncomputable def Dt : Addr := v0.2.2.2.2.2.2.2.2.2.2.2.2.2.2.2.2.2.1
noncomputable def tn : List (Addr × Obj) := v0.2.2.2.2.2.2.2.2.2.2.2.2.2.2.2.2.2.2.1
noncomputable def Dd : Addr := v0.2.2.2.2.2.2.2.2.2.2.2.2.2.2.2.2.2.2.2.1
noncomputable def ds : List Value := v0.2.2.2.2.2.2.2.2.2.2.2.2.2.2.2.2.2.2.2.2.1
noncomputable def o3 : Obj := v0.2.2.2.2.2.2.2.2.2.2.2.2.2.2.2.2.2.2.2.2.2.1
noncomputable def o4 : Obj := v0.2.2.2.2.2.2.2.2.2.2.2.2.2.2.2.2.2.2.2.2.2.2.1
noncomputable def o5 : Obj := v0.2.2.2.2.2.2.2.2.2.2.2.2.2.2.2.2.2.2.2.2.2.2.2.1
noncomputable def o6 : Obj := v0.2.2.2.2.2.2.2.2.2.2.2.2.2.2.2.2.2.2.2.2.2.2.2.2.1
noncomputable def top : Int := v0.2.2.2.2.2.2.2.2.2.2.2.2.2.2.2.2.2.2.2.2.2.2.2.2.2.1
noncomputable def st : Nat := v0.2.2.2.2.2.2.2.2.2.2.2.2.2.2.2.2.2.2.2.2.2.2.2.2.2.2.1
noncomputable def db : Addr := v0.2.2.2.2.2.2.2.2.2.2.2.2.2.2.2.2.2.2.2.2.2.2.2.2.2.2.2.1
noncomputable def vb : List Value := v0.2.2.2.2.2.2.2.2.2.2.2.2.2.2.2.2.2.2.2.2.2.2.2.2.2.2.2.2.1
noncomputable def nb : Nat := v0.2.2.2.2.2.2.2.2.2.2.2.2.2.2.2.2.2.2.2.2.2.2.2.2.2.2.2.2.2.1
noncomputable def i : Nat := v0.2.2.2.2.2.2.2.2.2.2.2.2.2.2.2.2.2.2.2.2.2.2.2.2.2.2.2.2.2.2.1
noncomputable def tc : Nat := v0.2.2.2.2.2.2.2.2.2.2.2.2.2.2.2.2.2.2.2.2.2.2.2.2.2.2.2.2.2.2.2.1
noncomputable def op : Nat := v0.2.2.2.2.2.2.2.2.2.2.2.2.2.2.2.2.2.2.2.2.2.2.2.2.2.2.2.2.2.2.2.2.1
noncomputable def R : Result → Shared → Prop := v0.2.2.2.2.2.2.2.2.2.2.2.2.2.2.2.2.2.2.2.2.2.2.2.2.2.2.2.2.2.2.2.2.2.1
noncomputable def s₀ : Shared := v0.2.2.2.2.2.2.2.2.2.2.2.2.2.2.2.2.2.2.2.2.2.2.2.2.2.2.2.2.2.2.2.2.2.2.1
noncomputable def I : Addr := v0.2.2.2.2.2.2.2.2.2.2.2.2.2.2.2.2.2.2.2.2.2.2.2.2.2.2.2.2.2.2.2.2.2.2.2.1
noncomputable def m₂ : Str → Option Value := v0.2.2.2.2.2.2.2.2.2.2.2.2.2.2.2.2.2.2.2.2.2.2.2.2.2.2.2.2.2.2.2.2.2.2.2.2.1
noncomputable def h : Heap := v0.2.2.2.2.2.2.2.2.2.2.2.2.2.2.2.2.2.2.2.2.2.2.2.2.2.2.2.2.2.2.2.2.2.2.2.2.2.1
noncomputable def tk : Nat := v0.2.2.2.2.2.2.2.2.2.2.2.2.2.2.2.2.2.2.2.2.2.2.2.2.2.2.2.2.2.2.2.2.2.2.2.2.2.2.1
noncomputable def gs : Array GenState := v0.2.2.2.2.2.2.2.2.2.2.2.2.2.2.2.2.2.2.2.2.2.2.2.2.2.2.2.2.2.2.2.2.2.2.2.2.2.2.2.1
noncomputable def nn : Nat := v0.2.2.2.2.2.2.2.2.2.2.2.2.2.2.2.2.2.2.2.2.2.2.2.2.2.2.2.2.2.2.2.2.2.2.2.2.2.2.2.2.1
noncomputable def p1 : Array Value := v0.2.2.2.2.2.2.2.2.2.2.2.2.2.2.2.2.2.2.2.2.2.2.2.2.2.2.2.2.2.2.2.2.2.2.2.2.2.2.2.2.2.1
noncomputable def p2 : Array Value := v0.2.2.2.2.2.2.2.2.2.2.2.2.2.2.2.2.2.2.2.2.2.2.2.2.2.2.2.2.2.2.2.2.2.2.2.2.2.2.2.2.2.2.1
noncomputable def tl : List (Addr × Obj) := v0.2.2.2.2.2.2.2.2.2.2.2.2.2.2.2.2.2.2.2.2.2.2.2.2.2.2.2.2.2.2.2.2.2.2.2.2.2.2.2.2.2.2.2.1
noncomputable def own : List (Addr × Obj) := v0.2.2.2.2.2.2.2.2.2.2.2.2.2.2.2.2.2.2.2.2.2.2.2.2.2.2.2.2.2.2.2.2.2.2.2.2.2.2.2.2.2.2.2.2
set_option maxHeartbeats 8000000 in
theorem main (nm qual : Str) (ps : Arguments) (body : List Stmt) (sc : Scope) (dV kV doc pm cdv ct oc : Value) (an od : Option Addr) (osl : Array (Option Value)) (hK : (hd.heap_39 w.params).lookup 162 = some ⟨oc, od, .func (fnOf nm qual ps body sc dV kV doc pm an cdv ct), osl⟩) (X : (hd.heap_39 w.params).In g) (T : Top p loose mean mg mb g) (hh : A.handled = none) (hroom : A.depth + 60 < recursionLimit) (hL : 159 < L) (hR : RingOk (ringL ns)) (hop : op ≤ 4) (hi : i < (ringL ns).length) (htcN : tc < (ringL ns).length) (hdb : (db, listOf (List.toArray vb) nb) ∈ tn) (hvb : IntsAre vb (turnI (ringL ns).length st)) (hck : ∀ m, chk (mkS (textL (ringL ns) ns (((turnI (ringL ns).length st).drop 1).take ((ringL ns).length - tc - 1)) ++ 34 :: List.replicate m 41)) = decide (m = op)) (tgt it : Expr) (bd more : List Stmt) (pp : Pos) (hbody : body.drop 15 = .For tgt it bd [] pp :: more) (hgs : AllBare gs) (lo : LocS m₂ f e rd Dt top st db i tc op) (T1 : TN68 g tl p1) (T2 : TN75 g tl p2) (htn : ∀ q ∈ tn, q ∈ tl) (htl : ∀ q ∈ tl, q.1 ≠ 75 ∧ q.1 ≠ 68 ∧ q.1 ≠ 159) (hnI : ∀ q ∈ (75, tabObj p2) :: (68, tabObj p1) :: (Dd, LCg.lst ds) :: (Dt, LCg.lst ts) :: (C, listOf ys.toArray nn) :: (L + 1 + 1 + 1 + 1 + 1 + 1, o6) :: (L + 1 + 1 + 1 + 1 + 1, o5) :: (L + 1 + 1 + 1 + 1, o4) :: (L + 1 + 1 + 1, o3) :: (159, tabObj #[]) :: tl, q.1 ≠ I) (le : LedE L C ys ns Dt ts Dd ds o3 o4 o5 o6 tn) (F : Fr g L h m₂) (N : News g L h ((75, tabObj p2) :: (68, tabObj p1) :: (Dd, LCg.lst ds) :: (Dt, LCg.lst ts) :: (C, listOf ys.toArray nn) :: (L + 1 + 1 + 1 + 1 + 1 + 1, o6) :: (L + 1 + 1 + 1 + 1 + 1, o5) :: (L + 1 + 1 + 1 + 1, o4) :: (L + 1 + 1 + 1, o3) :: (159, tabObj #[]) :: (tl ++ own))) :
    wpAny (model PySem.Challenge.rw_rs0108_01.row.prog w) (A.deeper (envOfC nm sc L fa (.ref 161))) (execs (bd.drop 5) (envOfC nm sc L fa (.ref 161))) (AfterW g L [I] own AllBare s₀ (AtK g L f e rd C nn ys Dt ts tn Dd ds o3 o4 o5 o6 top st db) R) (fun _ _ => False) { s₀ with heap := h, toks := tk, gens := gs } := by
  w_top off
  revert hK X
  k_fill
  intro hK X
  refine look_parts hK (by k_is) ?_
  rintro rfl rfl rfl
  clear hK
  refine for_parts hbody rfl ?_
  rintro rfl rfl
  clear hbody
  have le' := le
  obtain ⟨d3, ⟨t4, d4⟩, ⟨t5, d5⟩, d6, hys, h11, ht, hds, n5, n6, n7⟩ := le
  obtain ⟨⟨lt, ⟨tf, lf⟩, ⟨te, lx⟩, ⟨tr, lr⟩, ⟨tt, lp⟩, ⟨tst, lst⟩, lb⟩, ⟨tk', lk⟩, ⟨tto, lto⟩, ⟨top', lop⟩⟩ := lo
  obtain ⟨r, hr⟩ : ∃ r, r = ringL ns := ⟨_, rfl⟩
  rw [← hr] at d4 d5 hR hi htcN hvb hck
  have hr9 := hR.hi
  have hr7 := hR.lo
  have hi9 : i < 9 := by omega
  have F12 := fr_known (k := Str.ofString "opened") (fr_known (k := Str.ofString "to_come") (fr_known (k := Str.ofString "best") (fr_known (k := Str.ofString "start") (fr_known (k := Str.ofString "top") (fr_known (k := Str.ofString "rounds") (fr_known (k := Str.ofString "extra") (fr_known (k := Str.ofString "factor") (fr_known (k := Str.ofString "turns") (fr_known (k := Str.ofString "k") F lk) lt) lf) lx) lr) lp) lst) lb) lto) lop
  clear F
  dsimp only [List.drop]
  refine wp_cut 1 _ ?_
  dsimp only [List.take, List.drop]
  repeat' (first | ((with_reducible show wpAny _ _ (subscriptTail (.Name ..) (.Name ..) (.ref _) (.int _ _)) _ _ _); refine cells_at ‹_› (by k_mem) ‹_› ‹_› ‹_› ?_; intro _) | walk1)
  obtain ⟨z, hz⟩ : ∃ z, z = (op : Int) - 1 + ((ns.getD i 0).fdiv 256).fmod 3 := ⟨_, rfl⟩
  rw [← hz]
  have hz0 := Int.fmod_nonneg_of_pos ((ns.getD i 0).fdiv 256) (show (0 : Int) < 3 by decide)
  have hz1 := Int.fmod_lt_of_pos ((ns.getD i 0).fdiv 256) (show (0 : Int) < 3 by decide)
  refine max_two_N hh F12 N ?_
  intro h5 tk5 F5 N5
  obtain ⟨mo, hmo⟩ : ∃ mo : Nat, (if z > 0 then z else 0) = (mo : Int) := ⟨(if z > 0 then z else 0).toNat, by split <;> omega⟩
  have hmo6 : mo ≤ 6 := by split at hmo <;> omega
  rw [hmo]
  generalize (if z > 0 then _ else _ : Tok) = t6
  clear hz hz0 hz1 hmo F12 N
  repeat' (first | ((with_reducible show wpAny _ _ (subscriptTail (.Name ..) (.Name ..) (.ref _) (.int _ _)) _ _ _); refine cells_at ‹_› (by k_mem) ‹_› ‹_› ‹_› ?_; intro _) | walk1)
  refine .mk ?_
  rename Fr _ _ _ _ => F6
  rename News _ _ _ _ => N6
  refine wp_cut 1 _ ?_
  dsimp only [List.take, List.drop]
  have hdl : (turnI r.length st).length = r.length := turnI_len _ _
  have hdb' := htn _ hdb
  repeat' (first | ((with_reducible show wpAny _ _ (subscriptTail (.Name ..) (.Name ..) (.ref _) (.int _ _)) _ _ _); refine cells_at ‹_› (by k_mem) ‹_› ‹_› ‹_› ?_; intro _) | walk1)
  refine kmk_slice_ints F6 N6 (News.isList N6 (by repeat' (first | exact List.mem_append_left _ hdb' | apply List.Mem.tail))) (.int _ _) (.int _ _) hvb (slice_ints hvb (by decide) (by omega) (by rw [hdl]; omega)) rfl ?_ (by with_unfolding_all rfl) (by intro _; with_unfolding_all rfl) (by rw [List.size_toArray, hvb.length, hdl]; exact Nat.le_trans hr9 (by decide))
  intro D ws h7 F7 N7 hD7 hws _ _
  rw [show Int.toNat 1 = 1 from rfl, show ((r.length : Int) - (tc : Int) - 1).toNat = r.length - tc - 1 by omega] at hws
  obtain ⟨cut, hcut⟩ : ∃ cut, cut = ((turnI r.length st).drop 1).take (r.length - tc - 1) := ⟨_, rfl⟩
  rw [← hcut] at hws hck
  have hds1 : ∀ k ∈ cut, 0 ≤ k ∧ k < r.length := fun k hk => turnI_mem (by omega) (List.mem_of_mem_drop (List.mem_of_mem_take (by rw [← hcut]; exact hk)))
  have hdl1 : cut.length ≤ 20 := by rw [hcut, List.length_take, List.length_drop, hdl]; omega
  clear F6 N6
  repeat' (first | ((with_reducible show wpAny _ _ (subscriptTail (.Name ..) (.Name ..) (.ref _) (.int _ _)) _ _ _); refine cells_at ‹_› (by k_mem) ‹_› ‹_› ‹_› ?_; intro _) | walk1)
  refine use_text F7 N7 (News.isList N7 (.head _)) hws (News.isList N7 (by k_mem)) hys h11 hr9 hds1 hdl1 X T (by show A.depth + 1 + 5 < recursionLimit; omega) hh ?_
  intro h8 tk8 t8 F8 N8
  have N9 := fun q hq => N8 q (.tail _ hq)
  clear F7 N7 N8 hws hD7
  have hln : (mkS (textL r ns cut)).length ≤ 200 := by
    have := textL_len r ns cut
    show (textL _ _ _).toArray.size ≤ _
    rw [List.size_toArray]; omega
  iterate 7 (first | ((with_reducible show wpAny _ _ (subscriptTail (.Name ..) (.Name ..) (.ref _) (.int _ _)) _ _ _); refine cells_at ‹_› (by k_mem) ‹_› ‹_› ‹_› ?_; intro _) | walk1)
  have hval : mkS (textL r ns cut) ++ Str.ofString "\"" ++ Txt.mul (Str.ofString ")") (mo : Int) = mkS (textL r ns cut ++ 34 :: List.replicate mo 41) := by
    rw [mul_par, show Str.ofString "\"" = mkS [34] by decide +kernel, mk_app, mk_app, Int.toNat_natCast, List.append_assoc]
    rfl
  have hln2 : (mkS (textL r ns cut ++ 34 :: List.replicate mo 41)).length ≤ 1000 := by
    have := textL_len r ns cut
    show (textL _ _ _ ++ _ :: _).toArray.size ≤ _
    rw [List.size_toArray, List.length_append, List.length_cons, List.length_replicate]; omega
  rw [hval]
  clear hval hln
  repeat' (first | ((with_reducible show wpAny _ _ (subscriptTail (.Name ..) (.Name ..) (.ref _) (.int _ _)) _ _ _); refine cells_at ‹_› (by k_mem) ‹_› ‹_› ‹_› ?_; intro _) | walk1)
  refine use_chk F8 N9 hln2 X T (by show A.depth + 1 + 10 < recursionLimit; omega) hh ?_
  intro h9 tk9 gs9 F9 N10 hb9
  have hgs9 := hb9 hgs
  clear F8 N9 hb9 hln2
  rw [hck mo]
  repeat' (first | ((with_reducible show wpAny _ _ (subscriptTail (.Name ..) (.Name ..) (.ref _) (.int _ _)) _ _ _); refine cells_at ‹_› (by k_mem) ‹_› ‹_› ‹_› ?_; intro _) | walk1)
  refine .mk ?_
  rename Fr _ _ _ _ => F10
  rename News _ _ _ _ => N11
  iterate 10 (first | ((with_reducible show wpAny _ _ (subscriptTail (.Name ..) (.Name ..) (.ref _) (.int _ _)) _ _ _); refine cells_at ‹_› (by k_mem) ‹_› ‹_› ‹_› ?_; intro _) | walk1)
  have eb : (decide (mo = op) != ((mo : Int) == (op : Int))) = false := by
    by_cases q : mo = op
    · subst q; simp
    · have q' : ¬ (mo : Int) = (op : Int) := by omega
      simp [q, q']
  rw [eb]
  repeat' (first | ((with_reducible show wpAny _ _ (subscriptTail (.Name ..) (.Name ..) (.ref _) (.int _ _)) _ _ _); refine cells_at ‹_› (by k_mem) ‹_› ‹_› ‹_› ?_; intro _) | walk1)
  rename Fr _ _ _ _ => F11
  rename News _ _ _ _ => N12
  exact afterW (news₂ := (75, tabObj p2) :: (68, tabObj p1) :: (Dd, LCg.lst ds) :: (Dt, LCg.lst ts) :: (C, listOf ys.toArray nn) :: (L + 1 + 1 + 1 + 1 + 1 + 1, o6) :: (L + 1 + 1 + 1 + 1 + 1, o5) :: (L + 1 + 1 + 1 + 1, o4) :: (L + 1 + 1 + 1, o3) :: (159, tabObj #[]) :: tl) F11 N12 hgs9 (fun q hq e => hnI q hq (List.mem_singleton.mp e)) ⟨p1, p2, tl, rfl, ⟨rfl, ⟨_, rfl⟩, ⟨_, rfl⟩, ⟨_, rfl⟩, ⟨_, rfl⟩, ⟨_, rfl⟩, rfl⟩, T1, T2, htn, htl⟩
theorem all (v : V) : P v := byEps (v0 := v0) (by unfold v0; rfl) main v
end ksegT
theorem segT {fa : Addr} {w : World} {A : Around} {p : Program} {loose : List Str} {mean : ExcName → Option Value} {mg : Str → Option Value} {mb : Str → Option Value} {g : Heap} {L : Nat} {nm qual : Str} {ps : Arguments} {body : List Stmt} {sc : Scope} {dV kV doc pm cdv ct oc : Value} {an od : Option Addr} {osl : Array (Option Value)} {f e rd C : Nat} {ys ts : List Value} {ns : List Int} {Dt : Addr} {tn : List (Addr × Obj)} {Dd : Addr} {ds : List Value} {o3 o4 o5 o6 : Obj} {top : Int} {st : Nat} {db : Addr} {vb : List Value} {nb : Nat} (hK : (hd.heap_39 w.params).lookup 162 = some ⟨oc, od, .func (fnOf nm qual ps body sc dV kV doc pm an cdv ct), osl⟩) (X : (hd.heap_39 w.params).In g) (T : Top p loose mean mg mb g) (hh : A.handled = none) (hroom : A.depth + 60 < recursionLimit) (hL : 159 < L) (hR : RingOk (ringL ns)) {i tc op : Nat} (hop : op ≤ 4) (hi : i < (ringL ns).length) (htcN : tc < (ringL ns).length) (hdb : (db, listOf (List.toArray vb) nb) ∈ tn) (hvb : IntsAre vb (turnI (ringL ns).length st)) (hck : ∀ m, chk (mkS (textL (ringL ns) ns (((turnI (ringL ns).length st).drop 1).take ((ringL ns).length - tc - 1)) ++ 34 :: List.replicate m 41)) = decide (m = op)) {tgt it : Expr} {bd more : List Stmt} {pp : Pos} (hbody : body.drop 15 = .For tgt it bd [] pp :: more) (R : Result → Shared → Prop) (s₀ : Shared) (I : Addr) (m₂ : Str → Option Value) (h : Heap) (tk : Nat) (gs : Array GenState) (nn : Nat) (p1 p2 : Array Value) (tl own : List (Addr × Obj)) (hgs : AllBare gs) (lo : LocS m₂ f e rd Dt top st db i tc op) (T1 : TN68 g tl p1) (T2 : TN75 g tl p2) (htn : ∀ q ∈ tn, q ∈ tl) (htl : ∀ q ∈ tl, q.1 ≠ 75 ∧ q.1 ≠ 68 ∧ q.1 ≠ 159) (hnI : ∀ q ∈ (75, tabObj p2) :: (68, tabObj p1) :: (Dd, LCg.lst ds) :: (Dt, LCg.lst ts) :: (C, listOf ys.toArray nn) :: (L + 1 + 1 + 1 + 1 + 1 + 1, o6) :: (L + 1 + 1 + 1 + 1 + 1, o5) :: (L + 1 + 1 + 1 + 1, o4) :: (L + 1 + 1 + 1, o3) :: (159, tabObj #[]) :: tl, q.1 ≠ I) (le : LedE L C ys ns Dt ts Dd ds o3 o4 o5 o6 tn) (F : Fr g L h m₂) (N : News g L h ((75, tabObj p2) :: (68, tabObj p1) :: (Dd, LCg.lst ds) :: (Dt, LCg.lst ts) :: (C, listOf ys.toArray nn) :: (L + 1 + 1 + 1 + 1 + 1 + 1, o6) :: (L + 1 + 1 + 1 + 1 + 1, o5) :: (L + 1 + 1 + 1 + 1, o4) :: (L + 1 + 1 + 1, o3) :: (159, tabObj #[]) :: (tl ++ own))) :
    wpAny (model PySem.Challenge.rw_rs0108_01.row.prog w) (A.deeper (envOfC nm sc L fa (.ref 161))) (execs (bd.drop 5) (envOfC nm sc L fa (.ref 161))) (AfterW g L [I] own AllBare s₀ (AtK g L f e rd C nn ys Dt ts tn Dd ds o3 o4 o5 o6 top st db) R) (fun _ _ => False) { s₀ with heap := h, toks := tk, gens := gs } := ksegT.all (fa, w, A, p, loose, mean, mg, mb, g, L, f, e, rd, C, ys, ts, ns, Dt, tn, Dd, ds, o3, o4, o5, o6, top, st, db, vb, nb, i, tc, op, R, s₀, I, m₂, h, tk, gs, nn, p1, p2, tl, own) nm qual ps body sc dV kV doc pm cdv ct oc an od osl hK X T hh hroom hL hR hop hi htcN hdb hvb hck tgt it bd more pp hbody hgs lo T1 T2 htn htl hnI le F N
end
end Mine
end
-- part LawG
section
open PySem PySem.W PySem.Calls PyProof.Rows
namespace Mine
section
variable {fa : Addr} {w : World} {A : Around} {p : Program} {loose : List Str} {mean : ExcName → Option Value} {mg mb : Str → Option Value} {g : Heap} {L : Nat}
theorem keep_hide {h6 h' : Heap} {L' : Addr} {m' : Str → Option Value} {N : List (Addr × Obj)} (F' : Fr (hideAll h6 (N.map (·.1))) L' h' m') (N' : News (hideAll h6 (N.map (·.1))) L' h' N) (hN : ∀ q ∈ N, h6.get? q.1 = some q.2) : ∀ b o, h6.get? b = some o → h'.get? b = some o := by
  intro b o e
  by_cases hb : b ∈ N.map (·.1)
  · obtain ⟨q, hq, rfl⟩ := List.mem_map.mp hb
    have h1 := hN q hq
    rw [e] at h1
    cases h1
    exact (N' q hq).1
  · exact F'.keep _ _ (hideAll_get _ e hb)
end
section
namespace ksegG
noncomputable abbrev V := (Addr) × (World) × (Around) × (Program) × (List Str) × (ExcName → Option Value) × (Str → Option Value) × (Str → Option Value) × (Heap) × (Nat) × (Nat) × (Nat) × (Nat) × (Nat) × (List Value) × (List Value) × (List Int) × (Addr) × (List (Addr × Obj)) × (Addr) × (List Value) × (Obj) × (Obj) × (Obj) × (Obj) × (Int) × (Nat) × (Addr) × (Flow → Shared → Prop) × (Value → Shared → Prop) × (Shared) × (Str → Option Value) × (Nat) × (Array Value) × (Array Value) × (List (Addr × Obj))
noncomputable def P (v : V) : Prop :=
  (fun (fa : Addr) (w : World) (A : Around) (p : Program) (loose : List Str) (mean : ExcName → Option Value) (mg : Str → Option Value) (mb : Str → Option Value) (g : Heap) (L : Nat) (f : Nat) (e : Nat) (rd : Nat) (C : Nat) (ys : List Value) (ts : List Value) (ns : List Int) (Dt : Addr) (tn : List (Addr × Obj)) (Dd : Addr) (ds : List Value) (o3 : Obj) (o4 : Obj) (o5 : Obj) (o6 : Obj) (top : Int) (st : Nat) (db : Addr) (Q : Flow → Shared → Prop) (E : Value → Shared → Prop) (s : Shared) (m₂ : Str → Option Value) (nn : Nat) (p1 : Array Value) (p2 : Array Value) (tl : List (Addr × Obj)) =>
  ∀ (nm qual : Str) (ps : Arguments) (body : List Stmt) (sc : Scope) (dV kV doc pm cdv ct oc : Value) (an od : Option Addr) (osl : Array (Option Value)) (hK : (hd.heap_39 w.params).lookup 162 = some ⟨oc, od, .func (fnOf nm qual ps body sc dV kV doc pm an cdv ct), osl⟩) (X : (hd.heap_39 w.params).In g) (T : Top p loose mean mg mb g) (hh : A.handled = none) (hroom : A.depth + 60 < recursionLimit) (hL : 159 < L) (hR : RingOk (ringL ns)) (C3 : CodeHd g 161 159) (lo : LocE m₂ f e rd Dt top st db) (T1 : TN68 g tl p1) (T2 : TN75 g tl p2) (htl : ∀ q ∈ tl, q.1 ≠ 75 ∧ q.1 ≠ 68 ∧ q.1 ≠ 159) (le : LedE L C ys ns Dt ts Dd ds o3 o4 o5 o6 tn) (F : Fr g L s.heap m₂) (N : News g L s.heap ((75, tabObj p2) :: (68, tabObj p1) :: (Dd, LCg.lst ds) :: (Dt, LCg.lst ts) :: (C, listOf ys.toArray nn) :: (L + 1 + 1 + 1 + 1 + 1 + 1, o6) :: (L + 1 + 1 + 1 + 1 + 1, o5) :: (L + 1 + 1 + 1 + 1, o4) :: (L + 1 + 1 + 1, o3) :: (159, tabObj #[]) :: tl)) (hgs : AllBare s.gens) (hsw : ∀ ms : List Int, ms.Perm ((List.range (ringL ns).length).map fun (i : Nat) => (i : Int)) → ms.Pairwise (fun x y => - dotI (ringL ns) ns x.toNat ≤ - dotI (ringL ns) ns y.toNat) → chk (mkS (textL (ringL ns) ns (ms.drop 1))) = true) (hnext : ∀ h' tk gs m' p3 rest, AllBare gs → Fr g L h' m' → News g L h' ((75, tabObj p2) :: (68, tabObj p1) :: (159, tabObj p3) :: rest) → Q (.ret (.bool true)) { s with heap := h', toks := tk, gens := gs }), wpAny (model PySem.Challenge.rw_rs0108_01.row.prog w) (A.deeper (envOfC nm sc L fa (.ref 161))) (execs (body.drop 16) (envOfC nm sc L fa (.ref 161))) Q E s)
    v.1 v.2.1 v.2.2.1 v.2.2.2.1 v.2.2.2.2.1 v.2.2.2.2.2.1 v.2.2.2.2.2.2.1 v.2.2.2.2.2.2.2.1 v.2.2.2.2.2.2.2.2.1 v.2.2.2.2.2.2.2.2.2.1 v.2.2.2.2.2.2.2.2.2.2.1 v.2.2.2.2.2.2.2.2.2.2.2.1 v.2.2.2.2.2.2.2.2.2.2.2.2.1 v.2.2.2.2.2.2.2.2.2.2.2.2.2.1 v.2.2.2.2.2.2.2.2.2.2.2.2.2.2.1 v.2.2.2.2.2.2.2.2.2.2.2.2.2.2.2.1 v.2.2.2.2.2.2.2.2.2.2.2.2.2.2.2.2.1 v.2.2.2.2.2.2.2.2.2.2.2.2.2.2.2.2.2.1 v.2.2.2.2.2.2.2.2.2.2.2.2.2.2.2.2.2.2.1 v.2.2.2.2.2.2.2.2.2.2.2.2.2.2.2.2.2.2.2.1 v.2.2.2.2.2.2.2.2.2.2.2.2.2.2.2.2.2.2.2.2.1 v.2.2.2.2.2.2.2.2.2.2.2.2.2.2.2.2.2.2.2.2.2.1 v.2.2.2.2.2.2.2.2.2.2.2.2.2.2.2.2.2.2.2.2.2.2.1 v.2.2.2.2.2.2.2.2.2.2.2.2.2.2.2.2.2.2.2.2.2.2.2.1 v.2.2.2.2.2.2.2.2.2.2.2.2.2.2.2.2.2.2.2.2.2.2.2.2.1 v.2.2.2.2.2.2.2.2.2.2.2.2.2.2.2.2.2.2.2.2.2.2.2.2.2.1 v.2.2.2.2.2.2.2.2.2.2.2.2.2.2.2.2.2.2.2.2.2.2.2.2.2.2.1 v.2.2.2.2.2.2.2.2.2.2.2.2.2.2.2.2.2.2.2.2.2.2.2.2.2.2.2.1 v.2.2.2.2.2.2.2.2.2.2.2.2.2.2.2.2.2.2.2.2.2.2.2.2.2.2.2.2.1 v.2.2.2.2.2.2.2.2.2.2.2.2.2.2.2.2.2.2.2.2.2.2.2.2.2.2.2.2.2.1 v.2.2.2.2.2.2.2.2.2.2.2.2.2.2.2.2.2.2.2.2.2.2.2.2.2.2.2.2.2.2.1 v.2.2.2.2.2.2.2.2.2.2.2.2.2.2.2.2.2.2.2.2.2.2.2.2.2.2.2.2.2.2.2.1 v.2.2.2.2.2.2.2.2.2.2.2.2.2.2.2.2.2.2.2.2.2.2.2.2.2.2.2.2.2.2.2.2.1 v.2.2.2.2.2.2.2.2.2.2.2.2.2.2.2.2.2.2.2.2.2.2.2.2.2.2.2.2.2.2.2.2.2.1 v.2.2.2.2.2.2.2.2.2.2.2.2.2.2.2.2.2.2.2.2.2.2.2.2.2.2.2.2.2.2.2.2.2.2.1 v.2.2.2.2.2.2.2.2.2.2.2.2.2.2.2.2.2.2.2.2.2.2.2.2.2.2.2.2.2.2.2.2.2.2.2
@[irreducible] noncomputable def v0 : V := @Classical.epsilon V ⟨(0, aW, callerA, PySem.Challenge.rw_rs0108_01.row.prog, [], fun _ => none, fun _ => none, fun _ => none, {}, 0, 0, 0, 0, 0, [], [], [], 0, [], 0, [], { cls := .none, data := .cell none }, { cls := .none, data := .cell none }, { cls := .none, data := .cell none }, { cls := .none, data := .cell none }, 0, 0, 0, fun _ _ => True, fun _ _ => True, {}, fun _ => none, 0, #[], #[], [])⟩ fun v => ¬ P v
noncomputable def fa : Addr := v0.1
noncomputable def w : World := v0.2.1
noncomputable def A : Around := v0.2.2.1
noncomputable def p : Program := v0.2.2.2.1
noncomputable def loose : List Str := v0.2.2.2.2.1
noncomputable def mean : ExcName → Option Value := v0.2.2.2.2.2.1
noncomputable def mg : Str → Option Value := v0.2.2.2.2.2.2.1
noncomputable def mb : Str → Option Value := v0.2.2.2.2.2.2.2.1
noncomputable def g : Heap := v0.2.2.2.2.2.2.2.2.1
noncomputable def L : Nat := v0.2.2.2.2.2.2.2.2.2.1
noncomputable def f : Nat := v0.2.2.2.2.2.2.2.2.2.2.1
noncomputable def e : Nat := v0.2.2.2.2.2.2.2.2.2.2.2.1
noncomputable def rd : Nat := v0.2.2.2.2.2.2.2.2.2.2.2.2.1
noncomputable def C : Nat := v0.2.2.2.2.2.2.2.2.2.2.2.2.2.1
noncomputable def ys : List Value := v0.2.2.2.2.2.2.2.2.2.2.2.2.2.2.1
noncomputable def ts : List Value := v0.2.2.2.2.2.2.2.2.2.2.2.2.2.2.2.1
noncomputable def ns : List Int := v0.2.2.2.2.2.2.2.2.2.2.2.2.2.2.2.2.1
noncomputable def Dt : Addr := v0.2.2.2.2.2.2.2.2.2.2.2.2.2.2.2.2.2.1
noncomputable def tn : List (Addr × Obj) := v0.2.2.2.2.2.2.2.2.2.2.2.2.2.2.2.2.2.2.1
noncomputable def Dd : Addr := v0.2.2.2.2.2.2.2.2.2.2.2.2.2.2.2.2.2.2.2.1
noncomputable def ds : List Value := v0.2.2.2.2.2.2.2.2.2.2.2.2.2.2.2.2.2.2.2.2.1
noncomputable def o3 : Obj := v0.2.2.2.2.2.2.2.2.2.2.2.2.2.2.2.2.2.2.2.2.2.1
noncomputable def o4 : Obj := v0.2.2.2.2.2.2.2.2.2.2.2.2.2.2.2.2.2.2.2.2.2.2.1
noncomputable def o5 : Obj := v0.2.2.2.2.2.2.2.2.2.2.2.2.2.2.2.2.2.2.2.2.2.2.2.1
noncomputable def o6 : Obj := v0.2.2.2.2.2.2.2.2.2.2.2.2.2.2.2.2.2.2.2.2.2.2.2.2.1
noncomputable def top : Int := v0.2.2.2.2.2.2.2.2.2.2.2.2.2.2.2.2.2.2.2.2.2.2.2.2.2.1
noncomputable def st : Nat := v0.2.2.2.2.2.2.2.2.2.2.2.2.2.2.2.2.2.2.2.2.2.2.2.2.2.2.1
noncomputable def db : Addr := v0.2.2.2.2.2.2.2.2.2.2.2.2.2.2.2.2.2.2.2.2.2.2.2.2.2.2.2.1
noncomputable def Q : Flow → Shared → Prop := v0.2.2.2.2.2.2.2.2.2.2.2.2.2.2.2.2.2.2.2.2.2.2.2.2.2.2.2.2.1
noncomputable def E : Value → Shared → Prop := v0.2.2.2.2.2.2.2.2.2.2.2.2.2.2.2.2.2.2.2.2.2.2.2.2.2.2.2.2.2.1
noncomputable def s : Shared := v0.2.2.2.2.2.2.2.2.2.2.2.2.2.2.2.2.2.2.2.2.2.2.2.2.2.2.2.2.2.2.1
noncomputable def m₂ : Str → Option Value := v0.2.2.2.2.2.2.2.2.2.2.2.2.2.2.2.2.2.2.2.2.2.2.2.2.2.2.2.2.2.2.2.1
noncomputable def nn : Nat := v0.2.2.2.2.2.2.2.2.2.2.2.2.2.2.2.2.2.2.2.2.2.2.2.2.2.2.2.2.2.2.2.2.1
noncomputable def p1 : Array Value := v0.2.2.2.2.2.2.2.2.2.2.2.2.2.2.2.2.2.2.2.2.2.2.2.2.2.2.2.2.2.2.2.2.2.1
noncomputable def p2 : Array Value := v0.2.2.2.2.2.2.2.2.2.2.2.2.2.2.2.2.2.2.2.2.2.2.2.2.2.2.2.2.2.2.2.2.2.2.1
noncomputable def tl : List (Addr × Obj) := v0.2.2.2.2.2.2.2.2.2.2.2.2.2.2.2.2.2.2.2.2.2.2.2.2.2.2.2.2.2.2.2.2.2.2.2
set_option maxHeartbeats 8000000 in
theorem main (nm qual : Str) (ps : Arguments) (body : List Stmt) (sc : Scope) (dV kV doc pm cdv ct oc : Value) (an od : Option Addr) (osl : Array (Option Value)) (hK : (hd.heap_39 w.params).lookup 162 = some ⟨oc, od, .func (fnOf nm qual ps body sc dV kV doc pm an cdv ct), osl⟩) (X : (hd.heap_39 w.params).In g) (T : Top p loose mean mg mb g) (hh : A.handled = none) (hroom : A.depth + 60 < recursionLimit) (hL : 159 < L) (hR : RingOk (ringL ns)) (C3 : CodeHd g 161 159) (lo : LocE m₂ f e rd Dt top st db) (T1 : TN68 g tl p1) (T2 : TN75 g tl p2) (htl : ∀ q ∈ tl, q.1 ≠ 75 ∧ q.1 ≠ 68 ∧ q.1 ≠ 159) (le : LedE L C ys ns Dt ts Dd ds o3 o4 o5 o6 tn) (F : Fr g L s.heap m₂) (N : News g L s.heap ((75, tabObj p2) :: (68, tabObj p1) :: (Dd, LCg.lst ds) :: (Dt, LCg.lst ts) :: (C, listOf ys.toArray nn) :: (L + 1 + 1 + 1 + 1 + 1 + 1, o6) :: (L + 1 + 1 + 1 + 1 + 1, o5) :: (L + 1 + 1 + 1 + 1, o4) :: (L + 1 + 1 + 1, o3) :: (159, tabObj #[]) :: tl)) (hgs : AllBare s.gens) (hsw : ∀ ms : List Int, ms.Perm ((List.range (ringL ns).length).map fun (i : Nat) => (i : Int)) → ms.Pairwise (fun x y => - dotI (ringL ns) ns x.toNat ≤ - dotI (ringL ns) ns y.toNat) → chk (mkS (textL (ringL ns) ns (ms.drop 1))) = true) (hnext : ∀ h' tk gs m' p3 rest, AllBare gs → Fr g L h' m' → News g L h' ((75, tabObj p2) :: (68, tabObj p1) :: (159, tabObj p3) :: rest) → Q (.ret (.bool true)) { s with heap := h', toks := tk, gens := gs }) :
    wpAny (model PySem.Challenge.rw_rs0108_01.row.prog w) (A.deeper (envOfC nm sc L fa (.ref 161))) (execs (body.drop 16) (envOfC nm sc L fa (.ref 161))) Q E s := by
  w_top off
  revert hK X
  k_fill
  intro hK X
  refine look_parts hK (by k_is) ?_
  rintro rfl rfl rfl
  clear hK
  obtain ⟨d3, ⟨t4, d4⟩, ⟨t5, d5⟩, d6, hys, h11, ht, hds, n5, n6, n7⟩ := le
  obtain ⟨r, hr⟩ : ∃ r, r = ringL ns := ⟨_, rfl⟩
  rw [← hr] at d4 d5 hR hds ht hsw
  have hr9 := hR.hi
  have hr7 := hR.lo
  dsimp only [List.drop]
  refine wp_cut 1 _ ?_
  dsimp only [List.take, List.drop]
  have hlt0 := F.ns.lt
  have hgn : g.get? s.heap.objs.size = none := Heap.get?_none_of_le (Nat.le_trans F.above (Nat.le_of_lt hlt0))
  have hl159 : s.heap.objs.size ≠ 159 := Ne.symm (Nat.ne_of_lt (Nat.lt_trans hL hlt0))
  iterate 15 walk1
  rename Fr _ _ _ _ => F2
  rename News _ _ _ _ => N2
  rename IsRange _ _ _ _ _ _ _ _ => hr2
  rename (∀ (b : Addr) (o : Obj), _ → _) => hk2
  clear hk2
  obtain ⟨oR, hoR⟩ : ∃ o, Heap.get? _ s.heap.objs.size = some o := ⟨_, hr2⟩
  have hIs : ∀ h5 : Heap, h5.get? s.heap.objs.size = some oR → IsRange h5 _ 0 _ 1 _ _ _ := fun h5 e => by
    rw [show some oR = _ from hoR.symm.trans hr2] at e; exact e
  obtain ⟨lr, hlr⟩ : ∃ lr, lr = s.heap.objs.size := ⟨_, rfl⟩
  rw [← hlr] at hlt0 hgn hl159 hr2 hoR hIs ⊢
  have N3 := fun q (hq : q ∈ (lr, oR) :: _) => (List.mem_cons.mp hq).elim (fun e => by rw [e]; exact ⟨hoR, Ne.symm (Nat.ne_of_lt hlt0), hgn⟩) (N2 q)
  refine kla_eval rfl ?_
  refine kla_nest F2 N3 T C3 rfl (.tail hl159 (.tail (show (75 : Nat) ≠ 159 by decide) (.tail (show (68 : Nat) ≠ 159 by decide) (.tail (Ne.symm n7.2.2) (.tail (Ne.symm n6.2.2) (.tail (Ne.symm n5.2.2) (.tail (neN (by omega)) (.tail (neN (by omega)) (.tail (neN (by omega)) (.tail (neN (by omega)) (.head fun q hq => (htl q hq).2.2))))))))))) (by kn_triples) rfl rfl ?_
  intro f' c' oc vs t ctv h5 tk5 F5 N5 hdo hvo l1 l2
  try dsimp only at N5
  clear F2 N2 N3 hr2 hoR
  iterate 1 walk1
  obtain ⟨r1, r2, r3⟩ := small9 hr9
  refine sorted_range (n := r.length) (fun k => - dotI r ns k.toNat) hh F5 N5 (hIs _ (N5.get (by k_mem))) r1 r2 hr9 (ksk_s1 _ _) (fun x => ksk_l1 _ _) (fun x => ksk_t1 _ _) ?_ ?_
  · intro i t7 h6 tk6 own hi F6 N6
    have mf := N6 _ (List.mem_append_left _ (.head _))
    have mc := N6 (c', oc) (List.mem_append_left _ (.tail _ (.head _)))
    have m6 := N6 (L + 1 + 1 + 1 + 1 + 1 + 1, o6) (List.mem_append_left _ (by k_mem))
    have mD := N6 (Dd, LCg.lst ds) (List.mem_append_left _ (by k_mem))
    obtain ⟨fo, hfo⟩ : ∃ fo, h6.get? f' = some fo := ⟨_, mf.1⟩
    have hkp := hide_keep (as := [(f', fo), (L + 1 + 1 + 1 + 1 + 1 + 1, o6), (Dd, LCg.lst ds)].map (·.1)) F6.keep (allC mf.2.2 (allC m6.2.2 (allC mD.2.2 allN)))
    have X6 := X.keeps hkp
    have T6 := T.keeps hkp
    refine wpAny_call (codeAny_mono (R := fun q s' => ∃ h' tk' t', q = .ok (.ret (.int (- dotI r ns i) t')) ∧ s' = { s with heap := h', toks := tk' } ∧ ∀ b o, h6.get? b = some o → h'.get? b = some o) ?_ ?_)
    · have hN3 : ∀ q ∈ [(f', fo), (L + 1 + 1 + 1 + 1 + 1 + 1, o6), (Dd, LCg.lst ds)], h6.get? q.1 = some q.2 := allC hfo (allC m6.1 (allC mD.1 allN))
      refine enterL (N := [(f', fo), (L + 1 + 1 + 1 + 1 + 1 + 1, o6), (Dd, LCg.lst ds)]) (binds := [(Str.ofString "k", .int (i : Int) t7)]) hN3 (T.nolimit.keeps F6.keep) (by rw [show fo = _ from Option.some.inj (hfo.symm.trans mf.1)]; exact .head _) ⟨c', oc, vs, t, rfl, mc.1, hdo, hvo⟩ (by show A.depth + 1 < recursionLimit; omega) rfl rfl ?_ (by decide) rfl rfl rfl
      intro h7 F7 hk7 N7
      clear F6 N6 F5 N5 mf mc m6 hkp l1 l2 hIs
      iterate 4 walk1
      refine dots_at (Dd := Dd) N7 (by k_mem) hds hi hr9 ?_
      intro t9
      iterate 1 walk1
      exact ⟨_, _, _, rfl, rfl, keep_hide F7 N7 hN3⟩
    · rintro q s' ⟨h', tk', t', rfl, rfl, hk⟩
      exact ⟨h', tk', t', rfl, rfl, Fr.keeps F6 hk, News.grown N6 hk⟩
  · intro D h8 tk8 out ms c F8 N8 hi8 hp hs
    replace hs := hsw ms hp hs
    have hml : ms.length = r.length := by rw [hp.length_eq]; simp
    have hmr : ∀ k ∈ ms, 0 ≤ k ∧ k < r.length := fun k hk => by
      obtain ⟨j, hj, rfl⟩ := List.mem_map.mp (hp.mem_iff.mp hk)
      have := List.mem_range.mp hj
      omega
    obtain ⟨p3, n159⟩ : ∃ p3, News g L h8 [(159, tabObj p3)] := ⟨_, fun q hq => N8 q (by rw [List.mem_singleton.mp hq]; k_mem)⟩
    have N9 : News g L h8 ((D, listOf (List.toArray out) c) :: (75, tabObj p2) :: (68, tabObj p1) :: (159, tabObj p3) :: (C, listOf ys.toArray nn) :: (L + 1 + 1 + 1 + 1, o4) :: [(L + 1 + 1 + 1, o3)]) :=
      allC (N8 _ (by k_mem)) (allC (N8 _ (by k_mem)) (allC (N8 _ (by k_mem)) (allC (n159 _ (.head _)) (allC (N8 _ (by k_mem)) (allC (N8 _ (by k_mem)) (allC (N8 _ (by k_mem)) allN))))))
    clear F5 N5 N8 hIs l1 l2 hp hsw hlt0 hgn hl159
    repeat' walk1
    refine .mk ?_
    rename Fr _ _ _ _ => F9
    rename News _ _ _ _ => N10
    have hom : out.length = r.length := by rw [hi8.length, hml]
    refine wp_cut 1 _ ?_
    dsimp only [List.take, List.drop]
    repeat' walk1
    rename Fr _ _ _ _ => F11
    rename News _ _ _ _ => N11
    rename IntsAre _ (List.drop _ _) => hws
    have hds1 : ∀ k ∈ ms.drop 1, 0 ≤ k ∧ k < r.length := fun k hk => hmr k (List.mem_of_mem_drop hk)
    have hdl1 : (ms.drop 1).length ≤ 20 := by rw [List.length_drop, hml]; omega
    refine use_text F11 N11 (News.isList N11 (.head _)) hws (News.isList N11 (by k_mem)) hys h11 hr9 hds1 hdl1 X T (by show A.depth + 1 + 5 < recursionLimit; omega) hh ?_
    intro h12 tk12 t12 F12 N12
    clear F11 N11
    have hln : (mkS (textL r ns (ms.drop 1))).length ≤ 1000 := by
      have := textL_len r ns (ms.drop 1)
      show (textL _ _ _).toArray.size ≤ _
      rw [List.size_toArray]; omega
    repeat' walk1
    refine use_chk F12 N12 hln X T (by show A.depth + 1 + 10 < recursionLimit; omega) hh ?_
    intro h13 tk13 gs13 F13 N13 hb13
    have hgs13 := hb13 hgs
    rw [hs]
    clear F12 N12 hb13
    repeat' walk1
    refine hnext h13 tk13 gs13 _ p3 [] hgs13 F13 (allC (N13 _ (by k_mem)) (allC (N13 _ (by k_mem)) (allC (N13 _ (by k_mem)) allN)))
theorem all (v : V) : P v := byEps (v0 := v0) (by unfold v0; rfl) main v
end ksegG
theorem segG {fa : Addr} {w : World} {A : Around} {p : Program} {loose : List Str} {mean : ExcName → Option Value} {mg : Str → Option Value} {mb : Str → Option Value} {g : Heap} {L : Nat} {nm qual : Str} {ps : Arguments} {body : List Stmt} {sc : Scope} {dV kV doc pm cdv ct oc : Value} {an od : Option Addr} {osl : Array (Option Value)} {f e rd C : Nat} {ys ts : List Value} {ns : List Int} {Dt : Addr} {tn : List (Addr × Obj)} {Dd : Addr} {ds : List Value} {o3 o4 o5 o6 : Obj} {top : Int} {st : Nat} {db : Addr} (hK : (hd.heap_39 w.params).lookup 162 = some ⟨oc, od, .func (fnOf nm qual ps body sc dV kV doc pm an cdv ct), osl⟩) (X : (hd.heap_39 w.params).In g) (T : Top p loose mean mg mb g) (hh : A.handled = none) (hroom : A.depth + 60 < recursionLimit) (hL : 159 < L) (hR : RingOk (ringL ns)) (C3 : CodeHd g 161 159) {Q : Flow → Shared → Prop} {E : Value → Shared → Prop} {s : Shared} {m₂ : Str → Option Value} {nn : Nat} {p1 p2 : Array Value} {tl : List (Addr × Obj)} (lo : LocE m₂ f e rd Dt top st db) (T1 : TN68 g tl p1) (T2 : TN75 g tl p2) (htl : ∀ q ∈ tl, q.1 ≠ 75 ∧ q.1 ≠ 68 ∧ q.1 ≠ 159) (le : LedE L C ys ns Dt ts Dd ds o3 o4 o5 o6 tn) (F : Fr g L s.heap m₂) (N : News g L s.heap ((75, tabObj p2) :: (68, tabObj p1) :: (Dd, LCg.lst ds) :: (Dt, LCg.lst ts) :: (C, listOf ys.toArray nn) :: (L + 1 + 1 + 1 + 1 + 1 + 1, o6) :: (L + 1 + 1 + 1 + 1 + 1, o5) :: (L + 1 + 1 + 1 + 1, o4) :: (L + 1 + 1 + 1, o3) :: (159, tabObj #[]) :: tl)) (hgs : AllBare s.gens) (hsw : ∀ ms : List Int, ms.Perm ((List.range (ringL ns).length).map fun (i : Nat) => (i : Int)) → ms.Pairwise (fun x y => - dotI (ringL ns) ns x.toNat ≤ - dotI (ringL ns) ns y.toNat) → chk (mkS (textL (ringL ns) ns (ms.drop 1))) = true) (hnext : ∀ h' tk gs m' p3 rest, AllBare gs → Fr g L h' m' → News g L h' ((75, tabObj p2) :: (68, tabObj p1) :: (159, tabObj p3) :: rest) → Q (.ret (.bool true)) { s with heap := h', toks := tk, gens := gs }) :
    wpAny (model PySem.Challenge.rw_rs0108_01.row.prog w) (A.deeper (envOfC nm sc L fa (.ref 161))) (execs (body.drop 16) (envOfC nm sc L fa (.ref 161))) Q E s := ksegG.all (fa, w, A, p, loose, mean, mg, mb, g, L, f, e, rd, C, ys, ts, ns, Dt, tn, Dd, ds, o3, o4, o5, o6, top, st, db, Q, E, s, m₂, nn, p1, p2, tl) nm qual ps body sc dV kV doc pm cdv ct oc an od osl hK X T hh hroom hL hR C3 lo T1 T2 htl le F N hgs hsw hnext
end
end Mine
end
-- part PlA
section
open PySem PySem.W PySem.Calls PyProof.Rows
namespace Mine
/-- the count of open brackets in a plain row of signs -/
noncomputable def pStep (o : Option Nat) (c : Nat) : Option Nat := match o with
  | none => none
  | some n => if c = 40 then some (n + 1) else if c = 41 then (match n with | 0 => none | k + 1 => some k) else some n
noncomputable def parL (l : List Nat) : Option Nat := l.foldl pStep (some 0)
/-- what is left of an ahead piece when the quoted parts are gone -/
noncomputable def stL (c : Int) : List Nat := if (c.fdiv 64).fmod 4 = 0 then [] else if (c.fdiv 64).fmod 4 = 1 then [92, 41, 92, 92] else if (c.fdiv 64).fmod 4 = 2 then [92, 40] else []
noncomputable def brk (r : List Nat) (ds : List Int) : List Nat := ds.map fun k => r.getD k.toNat 0
noncomputable def strT (r : List Nat) (cs ds : List Int) : List Nat := ds.flatMap fun k => stL (cs.getD k.toNat 0) ++ [r.getD k.toNat 0]
/-- the four ways -/
theorem four (c : Int) : (aheadL c = [] ∧ stL c = []) ∨ (aheadL c = [92, 41, 92, 92] ∧ stL c = [92, 41, 92, 92]) ∨ (aheadL c = [34, 41, 92, 92, 34, 92, 40] ∧ stL c = [92, 40]) ∨ (aheadL c = [34, 92, 34, 41, 41, 34] ∧ stL c = []) := by
  unfold aheadL stL
  repeat' split
  all_goals simp
theorem ck_p {o : Option Nat} {i c : Nat} : ckStep o (i, [c]) = pStep o c := by
  cases o with
  | none => rfl
  | some n =>
    by_cases h : c = 40
    · subst h; rfl
    · by_cases h' : c = 41
      · subst h'; cases n <;> rfl
      · simp [ckStep, pStep, h, h']
theorem ck_esc {o : Option Nat} {i a b : Nat} : ckStep o (i, [a, b]) = o := by
  cases o with
  | none => rfl
  | some n => simp [ckStep]
theorem esc_one {i c : Nat} {l : List Nat} (h : c ≠ 92) : escL i false (c :: l) = (i, [c]) :: escL (i + 1) false l := by simp [escL, h]
theorem esc_two {i c : Nat} {l : List Nat} : escL i false (92 :: c :: l) = (i + 1, [92, c]) :: escL (i + 1 + 1) false l := by simp [escL]
theorem ck_suf : ∀ (l : List Nat) (i : Nat) (o : Option Nat), (∀ c ∈ l, c ≠ 92) → (escL i false l).foldl ckStep o = l.foldl pStep o
  | [], i, o, _ => rfl
  | c :: l, i, o, h => by
    rw [esc_one (h c (.head _)), List.foldl_cons, List.foldl_cons, ck_p]
    exact ck_suf l _ _ fun c hc => h c (.tail _ hc)
theorem ck_str {r : List Nat} {cs : List Int} {suf : List Nat} (hs : ∀ c ∈ suf, c ≠ 92) : ∀ (ds : List Int) (i : Nat) (o : Option Nat), (∀ k ∈ ds, r.getD k.toNat 0 ≠ 92) → (escL i false (strT r cs ds ++ suf)).foldl ckStep o = (brk r ds ++ suf).foldl pStep o
  | [], i, o, _ => ck_suf suf i o hs
  | k :: ds, i, o, h => by
    have h1 := h k (.head _)
    have ih := fun i o => ck_str (r := r) (cs := cs) hs ds i o fun k hk => h k (.tail _ hk)
    have e : strT r cs (k :: ds) ++ suf = stL (cs.getD k.toNat 0) ++ (r.getD k.toNat 0 :: (strT r cs ds ++ suf)) := by simp [strT]
    rw [e]
    show _ = (brk r ds ++ suf).foldl pStep (pStep o (r.getD k.toNat 0))
    rcases four (cs.getD k.toNat 0) with ⟨_, q⟩ | ⟨_, q⟩ | ⟨_, q⟩ | ⟨_, q⟩ <;> rw [q]
    · rw [List.nil_append, esc_one h1, List.foldl_cons, ck_p, ih]
    · simp only [List.cons_append, List.nil_append]
      rw [esc_two, esc_two, esc_one h1, List.foldl_cons, List.foldl_cons, List.foldl_cons, ck_esc, ck_esc, ck_p, ih]
    · simp only [List.cons_append, List.nil_append]
      rw [esc_two, esc_one h1, List.foldl_cons, List.foldl_cons, ck_esc, ck_p, ih]
    · rw [List.nil_append, esc_one h1, List.foldl_cons, ck_p, ih]
/-- the strip's state behind a part of the text -/
structure SqAt (l : List Nat) (n : Nat) (S : List Nat) (q : SQ) : Prop where
  op : q.op = none
  le : q.st ≤ n
  eq : (q.res.map fun y => y.cps.toList).flatten ++ (l.take n).drop q.st = S
theorem sq_plain {x : Str} {q : SQ} {i : Nat} {c : List Nat} (h : c ≠ [34]) : sqStep x q (i, c) = q := by simp [sqStep, h]
theorem SqAt.more {l : List Nat} {n m : Nat} {S : List Nat} {q : SQ} {add : List Nat} (x : SqAt l n S q) (h : l.take m = l.take n ++ add) (hn : n ≤ l.length) (hm : n ≤ m) : SqAt l m (S ++ add) q where
  op := x.op
  le := Nat.le_trans x.le hm
  eq := by
    have h1 : q.st ≤ (l.take n).length := by rw [List.length_take]; have := x.le; omega
    rw [h, List.drop_append_of_le_length h1, ← List.append_assoc, x.eq]
/-- a quoted part is closed -/
theorem SqAt.quote {l : List Nat} {n b : Nat} {S : List Nat} {q : SQ} (x : SqAt l n S q) (hn : n ≤ l.length) (hb : n ≤ b) :
    SqAt l (b + 1) S (sqStep (mkS l) (sqStep (mkS l) q (n, [34])) (b, [34])) := by
  obtain ⟨st, op, res⟩ := q
  obtain ⟨hop, hle, he⟩ := x
  simp only at hop hle he
  subst hop
  have e1 : sqStep (mkS l) (sqStep (mkS l) ⟨st, none, res⟩ (n, [34])) (b, [34]) = ⟨b + 1, none, if st ≠ n then res ++ [Txt.slice (mkS l) (some (st : Int)) (some (n : Int))] else res⟩ := by simp [sqStep]
  rw [e1]
  refine ⟨rfl, Nat.le_refl _, ?_⟩
  show ((if st ≠ n then res ++ [Txt.slice (mkS l) (some (st : Int)) (some (n : Int))] else res).map _).flatten ++ (l.take (b + 1)).drop (b + 1) = S
  rw [List.drop_eq_nil_of_le (by rw [List.length_take]; omega), List.append_nil]
  by_cases h : st = n
  · subst h
    rw [if_neg (by simp)]
    rw [List.drop_eq_nil_of_le (by rw [List.length_take]; omega), List.append_nil] at he
    exact he
  · rw [if_pos h]
    have hln : (mkS l).length = l.length := by show l.toArray.size = _; rw [List.size_toArray]
    have hsl := eq_of_beq (slice_closesL (x := mkS l) (i := (st : Int)) (j := (n : Int)) (by omega) (by omega) (by rw [hln]; omega))
    rw [hsl, List.map_append, List.flatten_append]
    rw [← he]
    congr 1
    simp only [List.map_cons, List.map_nil, List.flatten_cons, List.flatten_nil, List.append_nil]
    rw [List.drop_take]
    congr 2
    omega
theorem take_app {l P A R : List Nat} (h : l = P ++ A ++ R) : l.take (P.length + A.length) = l.take P.length ++ A := by
  subst h
  rw [List.append_assoc, ← List.length_append, ← List.append_assoc, List.take_left, List.append_assoc, List.take_left]
theorem sq_text {r : List Nat} {cs : List Int} {l suf : List Nat} : ∀ (ds : List Int) (P S : List Nat) (q : SQ), (∀ k ∈ ds, r.getD k.toNat 0 ≠ 92 ∧ r.getD k.toNat 0 ≠ 34) → l = P ++ (textL r cs ds ++ suf) → SqAt l P.length S q →
    ∃ q', SqAt l (P ++ textL r cs ds).length (S ++ strT r cs ds) q' ∧ (escL P.length false (textL r cs ds ++ suf)).foldl (sqStep (mkS l)) q = (escL (P ++ textL r cs ds).length false suf).foldl (sqStep (mkS l)) q'
  | [], P, S, q, _, hl, x => ⟨q, by simpa [textL, strT] using x, by simp [textL]⟩
  | k :: ds, P, S, q, h, hl, x => by
    obtain ⟨h1, h2⟩ := h k (.head _)
    obtain ⟨c, hc⟩ : ∃ c, c = r.getD k.toNat 0 := ⟨_, rfl⟩
    rw [← hc] at h1 h2
    have e : textL r cs (k :: ds) = (aheadL (cs.getD k.toNat 0) ++ [c]) ++ textL r cs ds := by simp [textL, hc]
    have e2 : strT r cs (k :: ds) = (stL (cs.getD k.toNat 0) ++ [c]) ++ strT r cs ds := by simp [strT, hc]
    rw [e] at hl ⊢
    rw [e2]
    obtain ⟨A, hA⟩ : ∃ A, A = aheadL (cs.getD k.toNat 0) ++ [c] := ⟨_, rfl⟩
    obtain ⟨B, hB⟩ : ∃ B, B = stL (cs.getD k.toNat 0) ++ [c] := ⟨_, rfl⟩
    rw [← hA] at hl ⊢
    rw [← hB]
    have hl' : l = (P ++ A) ++ (textL r cs ds ++ suf) := by rw [hl]; simp
    have hPl : P.length ≤ l.length := by rw [hl]; simp
    suffices hs : ∃ q1, SqAt l (P ++ A).length (S ++ B) q1 ∧ (escL P.length false (A ++ (textL r cs ds ++ suf))).foldl (sqStep (mkS l)) q = (escL (P ++ A).length false (textL r cs ds ++ suf)).foldl (sqStep (mkS l)) q1 by
      obtain ⟨q1, x1, f1⟩ := hs
      obtain ⟨q2, x2, f2⟩ := sq_text ds (P ++ A) (S ++ B) q1 (fun k hk => h k (.tail _ hk)) hl' x1
      refine ⟨q2, ?_, ?_⟩
      · rw [← List.append_assoc, ← List.append_assoc]; exact x2
      · rw [List.append_assoc A, f1, f2, ← List.append_assoc]
    have c34 : [c] ≠ [34] := by simpa using h2
    have tk : l.take (P.length + A.length) = l.take P.length ++ A := take_app (R := textL r cs ds ++ suf) (by rw [hl', List.append_assoc])
    generalize textL r cs ds ++ suf = R at hl hl' ⊢
    rcases four (cs.getD k.toNat 0) with ⟨p1, p2⟩ | ⟨p1, p2⟩ | ⟨p1, p2⟩ | ⟨p1, p2⟩ <;> rw [p1] at hA <;> rw [p2] at hB <;> subst hA hB
    · refine ⟨q, ?_, ?_⟩
      · rw [List.length_append]; exact x.more tk hPl (Nat.le_add_right _ _)
      · simp only [List.nil_append, List.cons_append]
        rw [esc_one h1, List.foldl_cons, sq_plain c34]
        simp
    · refine ⟨q, ?_, ?_⟩
      · rw [List.length_append]; exact x.more tk hPl (Nat.le_add_right _ _)
      · simp only [List.nil_append, List.cons_append]
        rw [esc_two, esc_two, esc_one h1, List.foldl_cons, List.foldl_cons, List.foldl_cons, sq_plain (c := [92, 41]) (by decide), sq_plain (c := [92, 92]) (by decide), sq_plain c34]
        simp
    · have y := x.quote (b := P.length + 1 + 1 + 1 + 1) hPl (by omega)
      have tk5 : l.take (P.length + 5) = l.take P.length ++ [34, 41, 92, 92, 34] := by
        have := take_app (l := l) (P := P) (A := [34, 41, 92, 92, 34]) (R := [92, 40, c] ++ R) (by rw [hl']; simp)
        exact this
      have tk8 : l.take (P.length + 8) = l.take (P.length + 5) ++ [92, 40, c] := by
        rw [tk5]
        have : l.take (P.length + 8) = l.take P.length ++ [34, 41, 92, 92, 34, 92, 40, c] := tk
        rw [this]; simp
      have e8 : (P ++ ([34, 41, 92, 92, 34, 92, 40] ++ [c])).length = P.length + 8 := by simp
      refine ⟨sqStep (mkS l) (sqStep (mkS l) q (P.length, [34])) (P.length + 1 + 1 + 1 + 1, [34]), ?_, ?_⟩
      rotate_left
      · simp only [List.nil_append, List.cons_append]
        rw [esc_one (by decide), esc_one (by decide), esc_two, esc_one (by decide), esc_two, esc_one h1]
        simp only [List.foldl_cons]
        rw [sq_plain (c := [41]) (by decide), sq_plain (c := [92, 92]) (by decide), sq_plain (c := [92, 40]) (by decide), sq_plain c34]
        rw [show (P ++ [34, 41, 92, 92, 34, 92, 40, c]).length = P.length + 8 from e8]
      · rw [e8]; exact y.more tk8 (by rw [hl]; simp; omega) (by omega)
    · have y := x.quote (b := P.length + 1 + 1 + 1 + 1 + 1) hPl (by omega)
      have tk6 : l.take (P.length + 6) = l.take P.length ++ [34, 92, 34, 41, 41, 34] := by
        have := take_app (l := l) (P := P) (A := [34, 92, 34, 41, 41, 34]) (R := [c] ++ R) (by rw [hl']; simp)
        exact this
      have tk7 : l.take (P.length + 7) = l.take (P.length + 6) ++ [c] := by
        rw [tk6]
        have : l.take (P.length + 7) = l.take P.length ++ [34, 92, 34, 41, 41, 34, c] := tk
        rw [this]; simp
      have e7 : (P ++ ([34, 92, 34, 41, 41, 34] ++ [c])).length = P.length + 7 := by simp
      refine ⟨sqStep (mkS l) (sqStep (mkS l) q (P.length, [34])) (P.length + 1 + 1 + 1 + 1 + 1, [34]), ?_, ?_⟩
      rotate_left
      · simp only [List.nil_append, List.cons_append]
        rw [esc_one (by decide), esc_two, esc_one (by decide), esc_one (by decide), esc_one (by decide), esc_one h1]
        simp only [List.foldl_cons]
        rw [sq_plain (c := [92, 34]) (by decide), sq_plain (c := [41]) (by decide), sq_plain (c := [41]) (by decide), sq_plain c34]
        rw [show (P ++ [34, 92, 34, 41, 41, 34, c]).length = P.length + 7 from e7]
      · rw [e7]; rw [show S ++ ([] ++ [c]) = S ++ [c] by simp]; exact y.more tk7 (by rw [hl]; simp; omega) (by omega)
theorem join_flat2 : ∀ ys : List Str, (Txt.join ⟨#[]⟩ ys).cps.toList = (ys.map fun y => y.cps.toList).flatten := by
  intro ys
  unfold Txt.join
  rw [StrLaws.glued_eq_join]
  induction ys with
  | nil => rfl
  | cons y r ih =>
    cases r with
    | nil => simp [Str.join]
    | cons z r =>
      show (y ++ ⟨#[]⟩ ++ Str.join ⟨#[]⟩ (z :: r)).cps.toList = _
      rw [Str.cps_append, Array.toList_append, ih, Str.cps_append, Array.toList_append]
      simp
theorem sq_suf {x : Str} : ∀ (l : List Nat) (i : Nat) (q : SQ), (∀ c ∈ l, c ≠ 92 ∧ c ≠ 34) → (escL i false l).foldl (sqStep x) q = q
  | [], _, _, _ => rfl
  | c :: l, i, q, h => by
    rw [esc_one (h c (.head _)).1, List.foldl_cons, sq_plain (by simpa using (h c (.head _)).2)]
    exact sq_suf l _ _ fun c hc => h c (.tail _ hc)
theorem textL_noq {r : List Nat} {cs : List Int} : ∀ ds : List Int, 34 ∉ textL r cs ds → textL r cs ds = strT r cs ds
  | [], _ => rfl
  | k :: ds, h => by
    have e : textL r cs (k :: ds) = aheadL (cs.getD k.toNat 0) ++ [r.getD k.toNat 0] ++ textL r cs ds := by simp [textL]
    have e2 : strT r cs (k :: ds) = stL (cs.getD k.toNat 0) ++ [r.getD k.toNat 0] ++ strT r cs ds := by simp [strT]
    rw [e] at h ⊢
    rw [e2, textL_noq ds fun q => h (List.mem_append_right _ q)]
    congr 2
    rcases four (cs.getD k.toNat 0) with ⟨p1, p2⟩ | ⟨p1, p2⟩ | ⟨p1, p2⟩ | ⟨p1, p2⟩
    · rw [p1, p2]
    · rw [p1, p2]
    · exact absurd (by rw [p1]; simp) h
    · exact absurd (by rw [p1]; simp) h
theorem sqEnd_eq {l : List Nat} {S : List Nat} {q : SQ} {n : Nat} (hle : q.st ≤ n) (hn : n ≤ l.length) (he : (q.res.map fun y => y.cps.toList).flatten ++ (l.take n).drop q.st = S) : Txt.join ⟨#[]⟩ (sqEnd (mkS l) q) = mkS (S ++ l.drop n) := by
  have hln : (mkS l).length = l.length := by show l.toArray.size = _; rw [List.size_toArray]
  apply Str.ext'
  apply Array.toList_inj.mp
  rw [join_flat2]
  have e0 : (l.take n).drop q.st ++ l.drop n = l.drop q.st := by
    conv => rhs; rw [← List.take_append_drop n l]
    rw [List.drop_append_of_le_length (by rw [List.length_take]; omega)]
  show _ = S ++ l.drop n
  rw [← he, List.append_assoc, e0]
  unfold sqEnd
  rw [hln]
  by_cases h : q.st < l.length
  · rw [if_pos h, slice_from_eq (x := mkS l) (b := (l.length : Int)) (by omega) (by rw [hln]; omega) (by rw [hln]), List.map_append, List.flatten_append]
    simp only [List.map_cons, List.map_nil, List.flatten_cons, List.flatten_nil, List.append_nil]
    congr 1
    rw [Int.toNat_natCast, List.take_of_length_le (by rw [List.length_drop]; show l.toArray.toList.length - q.st ≤ _; simp <;> omega)]
  · rw [if_neg h, List.drop_eq_nil_of_le (by omega), List.append_nil]
theorem strip_text {r : List Nat} {cs : List Int} {ds : List Int} {suf : List Nat} (hr : ∀ k ∈ ds, r.getD k.toNat 0 ≠ 92 ∧ r.getD k.toNat 0 ≠ 34) (hs : suf = [] ∨ ∃ m, suf = 34 :: List.replicate m 41) : stripQ (mkS (textL r cs ds ++ suf)) = mkS (strT r cs ds ++ suf) := by
  obtain ⟨l, hl⟩ : ∃ l, l = textL r cs ds ++ suf := ⟨_, rfl⟩
  rw [← hl]
  have hc : (mkS l).cps.toList = l := rfl
  unfold stripQ
  rw [hc]
  by_cases h : 34 ∈ l
  · rw [if_pos h]
    have e0 : sqAll (mkS l) (escL 0 false l).length = (escL 0 false l).foldl (sqStep (mkS l)) ⟨0, none, []⟩ := by
      unfold sqAll; rw [hc, List.take_length]
    rw [e0]
    obtain ⟨q', x', f'⟩ := sq_text (l := l) (suf := suf) ds [] [] ⟨0, none, []⟩ hr (by rw [hl]; rfl) ⟨rfl, Nat.le_refl _, by simp⟩
    simp only [List.nil_append, List.length_nil] at x' f'
    rw [← hl] at f'
    rw [f']
    have hsuf : l.drop (textL r cs ds).length = suf := by rw [hl, List.drop_left]
    rcases hs with rfl | ⟨m, rfl⟩
    · rw [show (escL (textL r cs ds).length false []).foldl (sqStep (mkS l)) q' = q' from rfl, sqEnd_eq x'.le (by rw [hl]; simp) x'.eq, hsuf]
    · rw [esc_one (by decide), List.foldl_cons, sq_suf _ _ _ fun c hc => by rw [List.eq_of_mem_replicate hc]; decide]
      have e1 : sqStep (mkS l) q' ((textL r cs ds).length, [34]) = ⟨q'.st, some (textL r cs ds).length, q'.res⟩ := by simp [sqStep, x'.op]
      rw [e1, sqEnd_eq (q := ⟨q'.st, some (textL r cs ds).length, q'.res⟩) x'.le (by rw [hl]; simp) x'.eq, hsuf]
  · rw [if_neg h]
    rcases hs with rfl | ⟨m, rfl⟩
    · rw [hl, textL_noq ds fun q => h (by rw [hl]; exact List.mem_append_left _ q)]
    · exact absurd (by rw [hl]; simp) h
/-- the check of a text tells whether its brackets close -/
theorem chk_text {r : List Nat} {cs : List Int} {ds : List Int} {suf : List Nat} (hr : ∀ k ∈ ds, r.getD k.toNat 0 = 40 ∨ r.getD k.toNat 0 = 41) (hs : suf = [] ∨ ∃ m, suf = 34 :: List.replicate m 41) : chk (mkS (textL r cs ds ++ suf)) = (parL (brk r ds ++ suf) == some 0) := by
  have h1 : ∀ k ∈ ds, r.getD k.toNat 0 ≠ 92 ∧ r.getD k.toNat 0 ≠ 34 := fun k hk => by rcases hr k hk with q | q <;> rw [q] <;> decide
  unfold chk
  rw [strip_text h1 hs]
  unfold ckAll
  rw [List.take_length, show (mkS (strT r cs ds ++ suf)).cps.toList = strT r cs ds ++ suf from rfl]
  rw [ck_str (fun c hc => ?_) ds 0 (some 0) fun k hk => (h1 k hk).1]
  · rfl
  · rcases hs with rfl | ⟨m, rfl⟩
    · exact absurd hc List.not_mem_nil
    · rcases List.mem_cons.mp hc with rfl | hc
      · decide
      · rw [List.eq_of_mem_replicate hc]; decide
end Mine
end
-- part PlD
section
namespace Mine
noncomputable def turnN (N k : Nat) : List Nat := (List.range N).map fun j => (k + j) % N
noncomputable def invN (r : List Nat) : List Nat → Nat → Nat
  | [], _ => 0
  | k :: ts, n => bif Nat.beq (r.getD k 0) 40 then n + invN r ts n else invN r ts (n - 1)
noncomputable def brkN (r ts : List Nat) : List Nat := ts.map fun k => r.getD k 0
noncomputable def closN (r ts : List Nat) : Nat := (ts.filter fun k => !Nat.beq (r.getD k 0) 40).length
noncomputable def dN (r : List Nat) (k : Nat) : Nat := invN r (turnN r.length k) (r.count 41)
noncomputable def insN (d : Nat → Nat) (x : Nat) : List Nat → List Nat
  | [] => [x]
  | y :: l => bif Nat.ble (d y) (d x) then x :: y :: l else y :: insN d x l
noncomputable def sortN (d : Nat → Nat) : List Nat → List Nat
  | [] => []
  | x :: l => insN d x (sortN d l)
noncomputable def fallN (d : Nat → Nat) : List Nat → Bool
  | [] => true
  | [_] => true
  | x :: y :: l => Nat.blt (d y) (d x) && fallN d (y :: l)
noncomputable def toN (N st i : Nat) : Nat := (st + N - i) % N
noncomputable def opN (N top st d i : Nat) : Nat := (2 * (top - d) - toN N st i) / N
noncomputable def okAt (r : List Nat) (D : List Nat) (N top st i : Nat) : Bool :=
  Nat.beq (closN r (turnN N i)) (r.count 41) &&
  Nat.ble (D.getD i 0) top &&
  Nat.beq (2 * (top - D.getD i 0)) (toN N st i + N * opN N top st (D.getD i 0) i) &&
  Nat.ble (opN N top st (D.getD i 0) i) 4 &&
  (parL (brkN r (((turnN N st).drop 1).take (N - toN N st i - 1))) == some (opN N top st (D.getD i 0) i)) &&
  (Nat.beq (r.getD i 0) 41 || ((parL (brkN r ((turnN N i).drop 1)) == some 0) == Nat.beq (D.getD i 0) top))
noncomputable def okD (r : List Nat) (D : List Nat) : Bool :=
  D.any (Nat.beq (D.foldl Nat.max 0)) &&
  (List.range r.length).all (okAt r D r.length (D.foldl Nat.max 0) (D.idxOf (D.foldl Nat.max 0))) &&
  fallN (fun k => D.getD k 0) (sortN (fun k => D.getD k 0) (List.range r.length)) &&
  (parL (brkN r ((sortN (fun k => D.getD k 0) (List.range r.length)).drop 1)) == some 0)
noncomputable def okR (r : List Nat) : Bool := okD r ((List.range r.length).map (dN r))
noncomputable def allR : Nat → Nat → Nat → List (List Nat)
  | 0, 0, 0 => [[]]
  | 0, _, _ => []
  | n + 1, a, b => (match a with | 0 => [] | a + 1 => (allR n a b).map (40 :: ·)) ++ (match b with | 0 => [] | b + 1 => (allR n a b).map (41 :: ·))
theorem mem_allR : ∀ l : List Nat, (∀ c ∈ l, c = 40 ∨ c = 41) → l ∈ allR l.length (l.count 40) (l.count 41)
  | [], _ => by simp [allR]
  | c :: l, h => by
    have ih := mem_allR l fun c hc => h c (.tail _ hc)
    rcases h c (.head _) with rfl | rfl
    · rw [List.count_cons_self, List.count_cons_of_ne (by decide), List.length_cons]
      exact List.mem_append_left _ (List.mem_map_of_mem ih)
    · rw [List.count_cons_self, List.count_cons_of_ne (by decide), List.length_cons]
      exact List.mem_append_right _ (List.mem_map_of_mem ih)
theorem c7a : (allR 6 3 3).all (fun l => okR (40 :: l)) = true := by decide +kernel
theorem c7b : (allR 6 4 2).all (fun l => okR (41 :: l)) = true := by decide +kernel
theorem c9a : (allR 6 2 4).all (fun l => okR (40 :: 40 :: 40 :: l)) = true := by decide +kernel
theorem c9b : (allR 6 3 3).all (fun l => okR (40 :: 40 :: 41 :: l)) = true := by decide +kernel
theorem c9c : (allR 6 3 3).all (fun l => okR (40 :: 41 :: 40 :: l)) = true := by decide +kernel
theorem c9d : (allR 6 4 2).all (fun l => okR (40 :: 41 :: 41 :: l)) = true := by decide +kernel
theorem c9e : (allR 6 3 3).all (fun l => okR (41 :: 40 :: 40 :: l)) = true := by decide +kernel
theorem c9f : (allR 6 4 2).all (fun l => okR (41 :: 40 :: 41 :: l)) = true := by decide +kernel
theorem c9g : (allR 6 4 2).all (fun l => okR (41 :: 41 :: 40 :: l)) = true := by decide +kernel
theorem c9h : (allR 6 5 1).all (fun l => okR (41 :: 41 :: 41 :: l)) = true := by decide +kernel
theorem ok7 {r : List Nat} (h : ∀ c ∈ r, c = 40 ∨ c = 41) (hl : r.length = 7) (h4 : r.count 40 = 4) (h3 : r.count 41 = 3) : okR r = true := by
  match r, hl with
  | a :: l, hl =>
    have hl6 : l.length = 6 := by simpa using hl
    have m := mem_allR l fun c hc => h c (.tail _ hc)
    rcases h a (.head _) with rfl | rfl
    · rw [List.count_cons_self] at h4
      rw [List.count_cons_of_ne (by decide)] at h3
      rw [hl6, show l.count 40 = 3 by omega, h3] at m
      exact List.all_eq_true.mp c7a l m
    · rw [List.count_cons_of_ne (by decide)] at h4
      rw [List.count_cons_self] at h3
      rw [hl6, h4, show l.count 41 = 2 by omega] at m
      exact List.all_eq_true.mp c7b l m
theorem ok9 {r : List Nat} (h : ∀ c ∈ r, c = 40 ∨ c = 41) (hl : r.length = 9) (h5 : r.count 40 = 5) (h4 : r.count 41 = 4) : okR r = true := by
  match r, hl with
  | a :: b :: c :: l, hl =>
    have hl6 : l.length = 6 := by simpa using hl
    have m := mem_allR l fun c hc => h c (.tail _ (.tail _ (.tail _ hc)))
    rcases h a (.head _) with rfl | rfl <;> rcases h b (.tail _ (.head _)) with rfl | rfl <;> rcases h c (.tail _ (.tail _ (.head _))) with rfl | rfl <;> simp only [List.count_cons_self, List.count_cons_of_ne (show (41 : Nat) ≠ 40 by decide), List.count_cons_of_ne (show (40 : Nat) ≠ 41 by decide)] at h5 h4
    · rw [hl6, show l.count 40 = 2 by omega, show l.count 41 = 4 by omega] at m; exact List.all_eq_true.mp c9a l m
    · rw [hl6, show l.count 40 = 3 by omega, show l.count 41 = 3 by omega] at m; exact List.all_eq_true.mp c9b l m
    · rw [hl6, show l.count 40 = 3 by omega, show l.count 41 = 3 by omega] at m; exact List.all_eq_true.mp c9c l m
    · rw [hl6, show l.count 40 = 4 by omega, show l.count 41 = 2 by omega] at m; exact List.all_eq_true.mp c9d l m
    · rw [hl6, show l.count 40 = 3 by omega, show l.count 41 = 3 by omega] at m; exact List.all_eq_true.mp c9e l m
    · rw [hl6, show l.count 40 = 4 by omega, show l.count 41 = 2 by omega] at m; exact List.all_eq_true.mp c9f l m
    · rw [hl6, show l.count 40 = 4 by omega, show l.count 41 = 2 by omega] at m; exact List.all_eq_true.mp c9g l m
    · rw [hl6, show l.count 40 = 5 by omega, show l.count 41 = 1 by omega] at m; exact List.all_eq_true.mp c9h l m
/-- the ring, built from the cells -/
theorem ring_inv (half : Nat) : ∀ (l : List Int) (r : List Nat), (∀ c ∈ r, c = 40 ∨ c = 41) → r.count 40 + r.count 41 = r.length → r.count 41 ≤ half → r.count 40 ≤ half + 1 → r.length + l.length ≤ 2 * half + 1 →
    (∀ c ∈ l.foldl (ringStep half) r, c = 40 ∨ c = 41) ∧ (l.foldl (ringStep half) r).count 40 + (l.foldl (ringStep half) r).count 41 = (l.foldl (ringStep half) r).length ∧ (l.foldl (ringStep half) r).count 41 ≤ half ∧ (l.foldl (ringStep half) r).count 40 ≤ half + 1
  | [], r, h1, h2, h3, h4, _ => ⟨h1, h2, h3, h4⟩
  | c :: l, r, h1, h2, h3, h4, h5 => by
    rw [List.foldl_cons]
    rw [List.length_cons] at h5
    by_cases q : (c.fmod 2 = 1 ∧ r.count 41 < half) ∨ half < r.count 40
    · rw [step41 q]
      refine ring_inv half l _ ?_ ?_ ?_ ?_ ?_
      · intro x hx
        rcases List.mem_append.mp hx with hx | hx
        · exact h1 x hx
        · exact .inr (List.mem_singleton.mp hx)
      · simp [List.count_append]; omega
      · rw [List.count_append, show List.count 41 [41] = 1 from rfl]
        rcases q with q | q <;> omega
      · rw [List.count_append, show List.count 40 [41] = 0 from rfl]; omega
      · rw [List.length_append, List.length_singleton]; omega
    · rw [step40 q]
      refine ring_inv half l _ ?_ ?_ ?_ ?_ ?_
      · intro x hx
        rcases List.mem_append.mp hx with hx | hx
        · exact h1 x hx
        · exact .inl (List.mem_singleton.mp hx)
      · simp [List.count_append]; omega
      · rw [List.count_append, show List.count 41 [40] = 0 from rfl]; omega
      · rw [List.count_append, show List.count 40 [40] = 1 from rfl]
        have : ¬ half < r.count 40 := fun e => q (.inr e)
        omega
      · rw [List.length_append, List.length_singleton]; omega
end Mine
end
-- part PlE
section
open PySem PySem.W PySem.Calls PyProof.Rows
namespace Mine
noncomputable def castL (ts : List Nat) : List Int := ts.map fun (k : Nat) => (k : Int)
theorem turn_cast (N k : Nat) : turnI N k = castL (turnN N k) := by
  unfold turnI turnN castL
  rw [List.map_map]; rfl
theorem isO_cast (r : List Nat) (k : Nat) : isO r (k : Int) = Nat.beq (r.getD k 0) 40 := by
  show (r.getD k 0 == 40) = _
  cases h : Nat.beq (r.getD k 0) 40 with
  | false => simpa using Nat.ne_of_beq_eq_false h
  | true => simpa using Nat.eq_of_beq_eq_true h
theorem invR_cast (r : List Nat) : ∀ (ts : List Nat) (n : Nat), invR r (castL ts) n = (invN r ts n : Int)
  | [], _ => rfl
  | k :: ts, n => by
    show (if isO r (k : Int) = true then (n : Int) + invR r (castL ts) n else invR r (castL ts) (n - 1)) = _
    rw [invR_cast r ts, invR_cast r ts, isO_cast, invN]
    cases Nat.beq (r.getD k 0) 40 <;> simp
theorem nonO_cast (r : List Nat) (ts : List Nat) : nonO r (castL ts) = closN r ts := by
  unfold nonO closN castL
  rw [List.filter_map, List.length_map]
  congr 2
  funext k
  show (!isO r (k : Int)) = _
  rw [isO_cast]
theorem brk_cast (r : List Nat) (ts : List Nat) : brk r (castL ts) = brkN r ts := by
  unfold brk brkN castL
  rw [List.map_map]; rfl
theorem cast_drop (ts : List Nat) (n : Nat) : (castL ts).drop n = castL (ts.drop n) := by unfold castL; rw [List.map_drop]
theorem cast_take (ts : List Nat) (n : Nat) : (castL ts).take n = castL (ts.take n) := by unfold castL; rw [List.map_take]
theorem last_ok (r : List Nat) (ts : List Int) : ∀ a ∈ ts, a = lastO r ts → isO r a = true → (ts.filter (isO r)).getLast? = some a := by
  intro a ha e h1
  have hm : a ∈ ts.filter (isO r) := List.mem_filter.mpr ⟨ha, h1⟩
  have hl : 0 < (ts.filter (isO r)).length := List.length_pos_of_mem hm
  rw [List.getLast?_eq_getElem?, e]
  unfold lastO
  rw [List.getD_eq_getElem?_getD, List.getElem?_eq_getElem (by omega)]
  rfl
theorem turn_nodup {N k : Nat} (hN : N = 7 ∨ N = 9) (hk : k < N) : (turnI N k).Nodup := by
  have h7 : ∀ k, k < 7 → (turnI 7 k).Nodup := by decide +kernel
  have h9 : ∀ k, k < 9 → (turnI 9 k).Nodup := by decide +kernel
  rcases hN with rfl | rfl
  · exact h7 k hk
  · exact h9 k hk
theorem mail_due {r : List Nat} {ns ts : List Int} (hn : ts.Nodup) (hc : nonO r ts = r.count 41) : mailL r ns ts = dueR r ns (lastO r ts) ts (r.count 41) ∧ dueL r ns ts = dueR r ns (lastO r ts) ts (r.count 41) := by
  constructor
  · have := mail_eq (ns := ns) (last := lastO r ts) ts [] .nil (fun _ y hy => absurd hy List.not_mem_nil) (last_ok r ts) hn
    rw [hc] at this
    exact this
  · have := due_eq (r := r) (ns := ns) (last := lastO r ts) ts (r.count 41) [] (by omega)
    rw [List.nil_append] at this
    exact this
/-- all that is asked of a ring -/
structure RingIn (r : List Nat) : Prop where
  ok : okR r = true
  len : r.length = 7 ∨ r.length = 9
  all : ∀ c ∈ r, c = 40 ∨ c = 41
  few : r.count 41 ≤ 4
theorem ring_in {ns : List Int} (h11 : ns.length = 11) (hl : (ringL ns).length = 2 * halfOf ns + 1 ∧ (halfOf ns = 3 ∨ halfOf ns = 4)) : RingIn (ringL ns) := by
  obtain ⟨h1, h2⟩ := hl
  have hlt : (ns.take (2 * halfOf ns + 1)).length = 2 * halfOf ns + 1 := by rw [List.length_take, h11]; omega
  obtain ⟨a1, a2, a3, a4⟩ := ring_inv (halfOf ns) (ns.take (2 * halfOf ns + 1)) [] (fun _ h => absurd h List.not_mem_nil) rfl (Nat.zero_le _) (Nat.zero_le _) (by rw [hlt]; simp)
  have e : (ns.take (2 * halfOf ns + 1)).foldl (ringStep (halfOf ns)) [] = ringL ns := rfl
  rw [e] at a1 a2 a3 a4
  rcases h2 with h2 | h2
  · rw [h2] at h1 a3 a4
    exact ⟨ok7 a1 h1 (by omega) (by omega), .inl h1, a1, by omega⟩
  · rw [h2] at h1 a3 a4
    exact ⟨ok9 a1 h1 (by omega) (by omega), .inr h1, a1, by omega⟩
section
variable {r : List Nat}
noncomputable def DD (r : List Nat) : List Nat := (List.range r.length).map (dN r)
noncomputable def topN (r : List Nat) : Nat := (DD r).foldl Nat.max 0
noncomputable def stN (r : List Nat) : Nat := (DD r).idxOf (topN r)
theorem DD_get {k : Nat} (hk : k < r.length) : (DD r).getD k 0 = dN r k := by
  unfold DD
  rw [List.getD_eq_getElem?_getD, List.getElem?_map, List.getElem?_range hk]
  rfl
structure AtI (r : List Nat) (i : Nat) : Prop where
  clos : closN r (turnN r.length i) = r.count 41
  le : dN r i ≤ topN r
  eq : 2 * (topN r - dN r i) = toN r.length (stN r) i + r.length * opN r.length (topN r) (stN r) (dN r i) i
  op : opN r.length (topN r) (stN r) (dN r i) i ≤ 4
  cut : parL (brkN r (((turnN r.length (stN r)).drop 1).take (r.length - toN r.length (stN r) i - 1))) = some (opN r.length (topN r) (stN r) (dN r i) i)
  top : r.getD i 0 = 40 → (parL (brkN r ((turnN r.length i).drop 1)) == some 0) = decide (dN r i = topN r)
theorem RingIn.at (x : RingIn r) {i : Nat} (hi : i < r.length) : AtI r i := by
  have h := x.ok
  unfold okR okD at h
  rw [Bool.and_eq_true, Bool.and_eq_true, Bool.and_eq_true] at h
  have h1 := List.all_eq_true.mp h.1.1.2 i (List.mem_range.mpr hi)
  unfold okAt at h1
  simp only [Bool.and_eq_true] at h1
  obtain ⟨⟨⟨⟨⟨b1, b2⟩, b3⟩, b4⟩, b5⟩, b6⟩ := h1
  have e : ((List.range r.length).map (dN r)).getD i 0 = dN r i := DD_get hi
  rw [e] at b2 b3 b4 b5 b6
  refine ⟨Nat.eq_of_beq_eq_true b1, Nat.le_of_ble_eq_true b2, Nat.eq_of_beq_eq_true b3, Nat.le_of_ble_eq_true b4, eq_of_beq b5, fun h40 => ?_⟩
  rw [h40] at b6
  have b7 := eq_of_beq (show ((parL (brkN r ((turnN r.length i).drop 1)) == some 0) == Nat.beq (dN r i) (topN r)) = true from b6)
  rw [b7]
  by_cases q : dN r i = topN r
  · rw [q]; simp
  · rw [decide_eq_false q]
    cases hb : Nat.beq (dN r i) (topN r) with
    | false => rfl
    | true => exact absurd (Nat.eq_of_beq_eq_true hb) q
theorem RingIn.dot (x : RingIn r) {ns : List Int} {i : Nat} (hi : i < r.length) : dotI r ns i = (dN r i : Int) := by
  have hn := turn_nodup x.len hi
  have hc : nonO r (turnI r.length i) = r.count 41 := by rw [turn_cast, nonO_cast]; exact (x.at hi).clos
  unfold dotI
  rw [laid_eq, (mail_due hn hc).1, RV_due _ _ (last_ok r _) hn, turn_cast, invR_cast]
  rfl
theorem RingIn.mails (x : RingIn r) {ns : List Int} {i : Nat} (hi : i < r.length) : mailL r ns (turnI r.length i) = dueL r ns (turnI r.length i) := by
  have hn := turn_nodup x.len hi
  have hc : nonO r (turnI r.length i) = r.count 41 := by rw [turn_cast, nonO_cast]; exact (x.at hi).clos
  rw [(mail_due hn hc).1, (mail_due hn hc).2]
theorem RingIn.pos (x : RingIn r) : 7 ≤ r.length ∧ r.length ≤ 9 := by rcases x.len with h | h <;> omega
theorem RingIn.ringOk (x : RingIn r) : RingOk r where
  lo := x.pos.1
  hi := x.pos.2
  ne := fun k hk e => by
    have hc : nonO r (turnI r.length k) = r.count 41 := by rw [turn_cast, nonO_cast]; exact (x.at hk).clos
    have h1 : ∀ l : List Int, l.filter (isO r) = [] → nonO r l = l.length := by
      intro l hl
      unfold nonO
      rw [List.filter_eq_self.mpr fun a ha => ?_]
      have := List.filter_eq_nil_iff.mp hl a ha
      simpa using this
    have h2 := h1 _ e
    rw [hc, turnI_len] at h2
    have := x.few
    have := x.pos
    omega
  few := fun k hk => by
    have hc : nonO r (turnI r.length k) = r.count 41 := by rw [turn_cast, nonO_cast]; exact (x.at hk).clos
    unfold nonO at hc
    rw [hc]; exact x.few
theorem RingIn.br (x : RingIn r) {k : Nat} (hk : k < r.length) : r.getD k 0 = 40 ∨ r.getD k 0 = 41 := by
  rw [List.getD_eq_getElem?_getD, List.getElem?_eq_getElem hk]
  exact x.all _ (List.getElem_mem hk)
theorem RingIn.brT (x : RingIn r) {k : Nat} {j : Int} (hj : j ∈ turnI r.length k) : r.getD j.toNat 0 = 40 ∨ r.getD j.toNat 0 = 41 := by
  have := x.pos
  obtain ⟨h0, h1⟩ := turnI_mem (by omega) hj
  exact x.br (by omega)
theorem RingIn.top_in (x : RingIn r) : topN r ∈ DD r := by
  have h := x.ok
  unfold okR okD at h
  rw [Bool.and_eq_true, Bool.and_eq_true, Bool.and_eq_true] at h
  obtain ⟨a, ha, hb⟩ := List.any_eq_true.mp h.1.1.1
  have e := Nat.eq_of_beq_eq_true hb
  rw [← e] at ha
  exact ha
theorem dots_cast (x : RingIn r) (ns : List Int) : dotsI r ns = castL (DD r) := by
  unfold dotsI castL DD
  rw [List.map_map]
  exact List.map_congr_left fun k hk => x.dot (List.mem_range.mp hk)
theorem RingIn.topI (x : RingIn r) {ns : List Int} {top : Int} (h1 : top ∈ dotsI r ns) (h2 : ∀ a ∈ dotsI r ns, a ≤ top) : top = (topN r : Int) := by
  rw [dots_cast x] at h1 h2
  have a1 := h2 (topN r : Int) (List.mem_map_of_mem x.top_in)
  obtain ⟨d, hd, rfl⟩ := List.mem_map.mp h1
  obtain ⟨k, hk, rfl⟩ := List.mem_map.mp hd
  have := (x.at (List.mem_range.mp hk)).le
  omega
theorem idx_cast (a : Nat) : ∀ l : List Nat, (castL l).idxOf (a : Int) = l.idxOf a
  | [] => rfl
  | x :: l => by
    show ((x : Int) :: castL l).idxOf (a : Int) = _
    rw [List.idxOf_cons, List.idxOf_cons, idx_cast a l]
    by_cases h : x = a
    · subst h
      rw [beq_self_eq_true, beq_self_eq_true]
    · have h' : ¬ (x : Int) = (a : Int) := by omega
      rw [beq_eq_false_iff_ne.mpr h, beq_eq_false_iff_ne.mpr h']
theorem RingIn.stI (x : RingIn r) (ns : List Int) : (dotsI r ns).idxOf (topN r : Int) = stN r := by
  rw [dots_cast x, idx_cast]; rfl
theorem RingIn.chk40 (x : RingIn r) {ns : List Int} {k : Nat} (hk : k < r.length) (h40 : r.getD k 0 = 40) : chk (mkS (textL r ns ((turnI r.length k).drop 1))) = decide (dotI r ns k = (topN r : Int)) := by
  have := chk_text (r := r) (cs := ns) (ds := (turnI r.length k).drop 1) (suf := []) (fun j hj => x.brT (List.mem_of_mem_drop hj)) (.inl rfl)
  rw [List.append_nil, List.append_nil] at this
  rw [this, turn_cast, cast_drop, brk_cast, (x.at hk).top h40, x.dot hk]
  congr 1
  exact propext ⟨fun e => by rw [e], fun e => by omega⟩
theorem fold_none : ∀ m, List.foldl pStep none (List.replicate m 41) = none
  | 0 => rfl
  | m + 1 => by rw [List.replicate_succ, List.foldl_cons]; exact fold_none m
theorem fold_clos : ∀ m a, (List.foldl pStep (some a) (List.replicate m 41) == some 0) = decide (m = a)
  | 0, 0 => rfl
  | 0, a + 1 => by
    rw [decide_eq_false (by omega)]
    rfl
  | m + 1, 0 => by
    rw [List.replicate_succ, List.foldl_cons]
    show (List.foldl pStep none (List.replicate m 41) == some 0) = _
    rw [fold_none, decide_eq_false (by omega)]
    rfl
  | m + 1, a + 1 => by
    rw [List.replicate_succ, List.foldl_cons]
    show (List.foldl pStep (some a) (List.replicate m 41) == some 0) = _
    rw [fold_clos m a]
    congr 1
    exact propext ⟨fun e => by omega, fun e => by omega⟩
theorem par_suf {l : List Nat} {a m : Nat} (h : parL l = some a) : (parL (l ++ 34 :: List.replicate m 41) == some 0) = decide (m = a) := by
  unfold parL at h ⊢
  rw [List.foldl_append, h, List.foldl_cons]
  exact fold_clos m a
theorem RingIn.turn (x : RingIn r) {ns : List Int} {i : Nat} (hi : i < r.length) : ∃ dl tc op : Nat, (topN r : Int) - dotI r ns i = (dl : Int) ∧ 2 * dl = tc + r.length * op ∧ op ≤ 4 ∧ ((stN r : Int) - (i : Int)).fmod (r.length : Int) = (tc : Int) ∧ tc < r.length ∧
    ∀ m, chk (mkS (textL r ns (((turnI r.length (stN r)).drop 1).take (r.length - tc - 1)) ++ 34 :: List.replicate m 41)) = decide (m = op) := by
  have a := x.at hi
  have hp := x.pos
  refine ⟨topN r - dN r i, toN r.length (stN r) i, opN r.length (topN r) (stN r) (dN r i) i, ?_, a.eq, a.op, ?_, Nat.mod_lt _ (by omega), fun m => ?_⟩
  · rw [x.dot hi]
    have := a.le
    omega
  · rw [Int.fmod_eq_emod_of_nonneg _ (by omega)]
    unfold toN
    rw [Int.natCast_emod, show ((stN r + r.length - i : Nat) : Int) = (stN r : Int) - (i : Int) + (r.length : Int) by omega, Int.add_emod_right]
  · have := chk_text (r := r) (cs := ns) (ds := ((turnI r.length (stN r)).drop 1).take (r.length - toN r.length (stN r) i - 1)) (suf := 34 :: List.replicate m 41) (fun j hj => x.brT (List.mem_of_mem_drop (List.mem_of_mem_take hj))) (.inr ⟨m, rfl⟩)
    rw [this, turn_cast, cast_drop, cast_take, brk_cast]
    exact par_suf a.cut
/-- the sweep -/
theorem ins_perm (d : Nat → Nat) (x : Nat) : ∀ l, (insN d x l).Perm (x :: l)
  | [] => .refl _
  | y :: l => by
    rw [insN]
    cases Nat.ble (d y) (d x) with
    | true => exact .refl _
    | false => exact ((ins_perm d x l).cons y).trans (.swap x y l)
theorem sort_perm (d : Nat → Nat) : ∀ l, (sortN d l).Perm l
  | [] => .refl _
  | x :: l => (ins_perm d x _).trans ((sort_perm d l).cons x)
theorem fall_pair (d : Nat → Nat) : ∀ l, fallN d l = true → l.Pairwise fun x y => d y < d x
  | [], _ => .nil
  | [x], _ => by simp
  | x :: y :: l, h => by
    rw [fallN, Bool.and_eq_true] at h
    have ih := fall_pair d (y :: l) h.2
    have h1 : d y < d x := Nat.le_of_ble_eq_true h.1
    refine .cons (fun z hz => ?_) ih
    rcases List.mem_cons.mp hz with rfl | hz
    · exact h1
    · exact Nat.lt_trans ((List.pairwise_cons.mp ih).1 z hz) h1
theorem RingIn.swept (x : RingIn r) {ns ms : List Int} (hp : ms.Perm ((List.range r.length).map fun (i : Nat) => (i : Int))) (hs : ms.Pairwise fun a b => - dotI r ns a.toNat ≤ - dotI r ns b.toNat) : chk (mkS (textL r ns (ms.drop 1))) = true := by
  have h := x.ok
  unfold okR okD at h
  rw [Bool.and_eq_true, Bool.and_eq_true, Bool.and_eq_true] at h
  obtain ⟨⟨_, h1⟩, h2⟩ := h
  obtain ⟨d, hd⟩ : ∃ d, d = fun k => ((List.range r.length).map (dN r)).getD k 0 := ⟨_, rfl⟩
  rw [← hd] at h1 h2
  have sp := sort_perm d (List.range r.length)
  have sf := fall_pair d _ h1
  have hin : ∀ a ∈ ms, 0 ≤ a ∧ a.toNat < r.length := fun a ha => by
    obtain ⟨j, hj, rfl⟩ := List.mem_map.mp (hp.mem_iff.mp ha)
    have := List.mem_range.mp hj
    omega
  have hinj : ∀ a b : Nat, a < r.length → b < r.length → d a = d b → a = b := by
    intro a b ha hb e
    have h3 : (sortN d (List.range r.length)).Pairwise fun x y => d x ≠ d y := sf.imp fun q => by omega
    have h4 := (sp.pairwise_iff (R := fun x y => d x ≠ d y) (fun q => Ne.symm q)).mp h3
    rcases Nat.lt_trichotomy a b with q | q | q
    · have := List.pairwise_iff_getElem.mp h4 a b (by simpa using ha) (by simpa using hb) q
      simp at this
      exact absurd e this
    · exact q
    · have := List.pairwise_iff_getElem.mp h4 b a (by simpa using hb) (by simpa using ha) q
      simp at this
      exact absurd e.symm this
  have hdd : ∀ a : Nat, a < r.length → dotI r ns a = (d a : Int) := fun a ha => by
    rw [x.dot ha, hd]
    show _ = ((DD r).getD a 0 : Int)
    rw [DD_get ha]
  have key : ms = castL (sortN d (List.range r.length)) := by
    refine List.Perm.eq_of_pairwise (le := fun a b : Int => d b.toNat ≤ d a.toNat) (fun a b ha hb q1 q2 => ?_) ?_ ?_ (hp.trans (sp.map (fun (i : Nat) => (i : Int))).symm)
    · obtain ⟨a0, a1⟩ := hin a ha
      have hb' : b ∈ (List.range r.length).map fun (i : Nat) => (i : Int) := (sp.map (fun (i : Nat) => (i : Int))).mem_iff.mp hb
      obtain ⟨j, hj, rfl⟩ := List.mem_map.mp hb'
      have hjl := List.mem_range.mp hj
      have := hinj a.toNat j a1 hjl (Nat.le_antisymm q2 q1)
      omega
    · refine hs.imp_of_mem fun {a b} ha hb q => ?_
      rw [hdd _ (hin a ha).2, hdd _ (hin b hb).2] at q
      omega
    · show (List.map _ _).Pairwise _
      rw [List.pairwise_map]
      exact sf.imp fun q => Nat.le_of_lt q
  have := chk_text (r := r) (cs := ns) (ds := ms.drop 1) (suf := []) (fun j hj => by
    obtain ⟨j0, j1⟩ := hin j (List.mem_of_mem_drop hj)
    exact x.br j1) (.inl rfl)
  rw [List.append_nil, List.append_nil] at this
  rw [this, key, cast_drop, brk_cast]
  exact h2
end
end Mine
end
end
-- part LawY
section
open PySem PySem.W PySem.Calls PyProof.Rows
namespace Mine
theorem atA_11 {g : Heap} {L : Nat} {W C : Nat} {ys : List Value} {ns : List Int} {h : Heap} (x : AtA g L W C ys ns h) : ns.length = 11 := by
  obtain ⟨m, tw, nn, o3, o4, o5, o6, F, mW, N, d3, d4, d5, d6, hys, h11, _⟩ := x
  exact h11
section
variable {fa : Addr} {w : World} {A : Around} {s : Shared} {p : Program} {loose : List Str} {mean : ExcName → Option Value} {mg mb : Str → Option Value} {g : Heap} {L : Nat} {E : Value → Shared → Prop} {Q : Flow → Shared → Prop}
set_option maxHeartbeats 8000000 in
theorem segAll {nm qual : Str} {ps : Arguments} {body : List Stmt} {sc : Scope} {dV kV doc pm cdv ct oc : Value} {an od : Option Addr} {osl : Array (Option Value)} {o1 o2 o3 o4 o5 o6 : Obj} {S : Addr} {zv : List Value} {zs : List Int}
    (hK : (hd.heap_39 w.params).lookup 162 = some ⟨oc, od, .func (fnOf nm qual ps body sc dV kV doc pm an cdv ct), osl⟩)
    (X : (hd.heap_39 w.params).In g) (T : Top p loose mean mg mb g) (hh : A.handled = none) (hroom : A.depth + 60 < recursionLimit) (hun : ∀ env, (A.deeper env).units + 64 < cLine)
    (C1 : CodeHd g 72 68) (C2 : CodeHd g 79 75) (C3 : CodeHd g 161 159)
    (F : Fr g L s.heap (fun _ => none)) (d1 : o1.data = .cell (some (.ref S))) (d2 : o2.data = .cell none) (d3 : o3.data = .cell none) (d4 : o4.data = .cell none) (d5 : o5.data = .cell none) (d6 : o6.data = .cell none)
    (N : News g L s.heap [(L + 1 + 1 + 1 + 1 + 1 + 1, o6), (L + 1 + 1 + 1 + 1 + 1, o5), (L + 1 + 1 + 1 + 1, o4), (L + 1 + 1 + 1, o3), (L + 1 + 1, o2), (L + 1, o1), (75, tabObj #[]), (68, tabObj #[]), (159, tabObj #[])])
    (l0 : 75 < L ∧ 68 < L ∧ 159 < L)
    (hS : g.IsList S zv.toArray) (hI : IntsAre zv zs) (hz : zs.length ≤ 63) (hgs : AllBare s.gens)
    (hend : ∀ h' tk gs m' p1 p2 p3 rest, AllBare gs → Fr g L h' m' → News g L h' ((75, tabObj p2) :: (68, tabObj p1) :: (159, tabObj p3) :: rest) → Q (.ret (.bool true)) { s with heap := h', toks := tk, gens := gs }) :
    wpAny (model PySem.Challenge.rw_rs0108_01.row.prog w) (A.deeper (envOfC nm sc L fa (.ref 161))) (execs body (envOfC nm sc L fa (.ref 161))) Q E s := by
  revert hK X
  k_fill
  intro hK X
  obtain ⟨tgt, it, bd, more, pp, hbody⟩ : ∃ tgt it bd more pp, body.drop 15 = .For tgt it bd [] pp :: more := by
    refine look_parts hK (by k_is) ?_
    intro _ e _
    exact ⟨_, _, _, _, _, by rw [e]; rfl⟩
  have hL := l0.2.2
  refine segA hK X T hh hroom F d1 d2 d3 d4 d5 d6 N l0 hS hI hz ?_
  intro h1 tk1 W C ys ns hW2 hW hA
  have h11 := atA_11 hA
  have x := ring_in h11 (ringL_len h11)
  have hR := x.ringOk
  have hp := x.pos
  refine segB hK X T hh hroom hW2 hW hA hL ?_
  intro h2 tk2 f e rd hf1 hf2 he hrd hB
  refine segC hK X T hh hroom hB hL ?_
  intro h3 tk3 Dt ts tn hC
  refine segD hK X T hh hroom hC hL hun hR (fun k hk => x.mails hk) ?_
  intro h4 tk4 Dm l hD
  refine segE hK X T hh hroom hD hL hR ?_
  intro h5 tk5 Dd ds q3 q4 q5 q6 top st db vb nb hE ht1 ht2 hst hdb hvb
  have htop := x.topI ht1 ht2
  subst htop
  rw [x.stI] at hst
  subst hst
  refine segF hK X T hh hroom hE hL hR hgs (fun k hk => x.br hk) (fun k hk h40 => x.chk40 hk h40) hbody ?_ ?_
  · intro R s₀ I i t m₂ h tk gs nn p1 p2 tl own hg hi hk lo T1 T2 htn htl hown hIo hnI hI1 hI2 le F6 N6
    obtain ⟨dl, tc, op, a1, a2, a3, a4, a5, a6⟩ := x.turn (ns := ns) hi
    refine segR hK X T hh hroom hL hR a1 a2 a3 a4 a5 hW2 hW hf1 hf2 he hrd C1 C2 hbody hi hk lo T1 T2 htn htl hown hIo hnI hI1 hI2 le F6 N6 ?_
    intro h7 tk7 m7 D t1 t2 n p1' p2' tl' lo7 T17 T27 htn7 htl7 hDI F7 N7
    refine segS (ns := ns) (tn := tn) hK X T hh hroom hL hun a3 hW hf2 (by omega) hbody lo7 F7 N7 ?_
    intro h8 tk8 m8 lo8 F8 N8
    exact segT hK X T hh hroom hL hR a3 hi a5 hdb hvb a6 hbody R s₀ I m8 h8 tk8 gs nn p1' p2' tl' own hg lo8 T17 T27 htn7 (fun q hq => ⟨(htl7 q hq).1, (htl7 q hq).2.1, (htl7 q hq).2.2.1⟩) (allC (hnI (75, tabObj p2) (.head _)) (allC (hnI (68, tabObj p1) (.tail _ (.head _))) (allC (hnI _ (by k_mem)) (allC (hnI _ (by k_mem)) (allC (hnI _ (by k_mem)) (allC (hnI _ (by k_mem)) (allC (hnI _ (by k_mem)) (allC (hnI _ (by k_mem)) (allC (hnI _ (by k_mem)) (allC (hnI _ (by k_mem)) fun q hq => (htl7 q hq).2.2.2)))))))))) le F8 N8
  · intro m₂ h tk gs nn p1 p2 tl hg lo T1 T2 htn htl le F6 N6
    refine segG hK X T hh hroom hL hR C3 lo T1 T2 htl le F6 N6 hg (fun ms m1 m2 => x.swept m1 m2) ?_
    intro h' tk' gs' m' p3 rest hg' F7 N7
    exact hend h' tk' gs' m' p1 p2 p3 rest hg' F7 N7
end
end Mine
end
-- part LawZ
section
open PySem PySem.W PySem.Calls PyProof.Rows
open Mine
local macro_rules | `(tactic| kn_posts) => `(tactic| (refine post_g (by assumption) (fun _ => rfl) ?k2 ?_; (case k2 => wrow_post)))
set_option maxHeartbeats 8000000 in
theorem PySem.Challenge.cw_rs0108_01_holds : PySem.Challenge.rw_rs0108_01.Holds := by
  refine Mine.hd ?_
  k_go0
  rename Fr _ _ _ _ => F'
  rename News _ _ _ _ => N'
  rename (_ ∧ _ ∧ _ < _) => l0
  rename (¬ _ < _) => hz
  rename IntsAre _ _ => hI
  rename Top _ _ _ _ _ (ghostOf _ _) => T'
  rename (Frag.In _ (ghostOf _ _)) => X'
  rename (TabsAt _ _) => hT
  rename (Shared.gens _ = _) => hgens
  rename CodeHd _ (161, 159).1 (161, 159).2 => C3
  rename CodeHd _ (72, 68).1 (72, 68).2 => C1
  rename CodeHd _ (79, 75).1 (79, 75).2 => C2
  rename_i h₁ tk₁ o6 o5 o4 o3 o2 o1 d6 d5 d4 d3 d2 d1 X0 K0
  clear X0 K0
  rename Shared => s1
  dsimp only at F' d1 d2 d3 d4 d5 d6
  have F2 : Fr _ _ h₁ (fun _ => none) := F'
  have e1 : o1.data = .cell (some (.ref _)) := d1
  have e2 : o2.data = .cell none := d2
  have e3 : o3.data = .cell none := d3
  have e4 : o4.data = .cell none := d4
  have e5 : o5.data = .cell none := d5
  have e6 : o6.data = .cell none := d6
  clear F' d1 d2 d3 d4 d5 d6
  have hz' : List.length _ ≤ 63 := Nat.le_of_not_lt fun h => hz (Int.ofNat_lt.mpr h)
  have hu : callerA.units + 3 + 64 < cLine := by decide
  dsimp only



  refine' segAll ?khK ?kX ?kT ?khh ?khroom ?khun ?kC1 ?kC2 ?kC3 ?kF ?kd1 ?kd2 ?kd3 ?kd4 ?kd5 ?kd6 ?kN ?kl0 ?khS ?khI ?khz ?khgs ?khend
  case kF => exact F2
  case kX => exact X'
  case kT => exact T'
  case khh => exact rfl
  case khroom => exact by show callerA.depth + 60 < recursionLimit; decide
  case khun => exact fun _ => hu
  case kC1 => exact C1
  case kC2 => exact C2
  case kC3 => exact C3
  case kd1 => exact e1
  case kd2 => exact e2
  case kd3 => exact e3
  case kd4 => exact e4
  case kd5 => exact e5
  case kd6 => exact e6
  case kN => exact N'
  case kl0 => exact l0
  case khS => exact lifted
  case khI => exact hI
  case khz => exact hz'
  case khK => k_is
  case khgs =>
    show AllBare s1.gens
    rw [hgens]
    exact AllBare.empty
  case khend =>
    intro h' tk gs m' p1 p2 p3 rest hb F7 N7
    exact ⟨rfl, F7.keep, rfl, hb, ⟨_, (N7 _ (.head _)).1⟩, ⟨_, (N7 _ (.tail _ (.head _))).1⟩, ⟨_, (N7 _ (.tail _ (.tail _ (.head _)))).1⟩, trivial⟩
end
