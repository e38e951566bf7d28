import PyProof.Rows.All
import Wide.All
import OpenK.AllK
import Wide.FinOn
import PySem.Challenge.RW_pa0025_01
set_option Elab.async false
namespace Mine
section PartHd
open PySem PySem.W PyProof.Rows
set_option maxRecDepth 100000
set_option maxHeartbeats 8000000
open_top hd for PySem.Challenge.rw_pa0025_01
end PartHd
section PartSre1
open PySem
set_option maxRecDepth 100000
set_option maxHeartbeats 1000000
open PySem.Sre PySem.Sre.M
def runK : Nat → M → M
  | 0, m => m
  | n + 1, m => runK n m.step
theorem step_done {m : M} (h : m.outcome.isSome = true) : m.step = m := by unfold M.step; rw [if_pos h]
theorem runK_done {m : M} (h : m.outcome.isSome = true) : ∀ n, runK n m = m
  | 0 => rfl
  | n + 1 => by rw [runK, step_done h, runK_done h n]
theorem runFor_runK : ∀ (n : Nat) (m : M), M.runFor n m = runK n m
  | 0, _ => rfl
  | n + 1, m => by
    rw [M.runFor, runK]
    by_cases h : m.outcome.isSome = true
    · rw [if_pos h, step_done h, runK_done h]
    · rw [if_neg h, runFor_runK n]
theorem runK_add : ∀ (a b : Nat) (m : M), runK (a + b) m = runK b (runK a m)
  | 0, b, m => by rw [Nat.zero_add]; rfl
  | a + 1, b, m => by rw [show a + 1 + b = (a + b) + 1 by omega, runK, runK, runK_add a b]
/-- the machine comes to its end within n steps -/
def EndsIn (n : Nat) (m m' : M) : Prop := runK n m = m' ∧ m'.outcome.isSome = true
theorem EndsIn.le {n k : Nat} {m m' : M} (h : EndsIn n m m') (hk : n ≤ k) : EndsIn k m m' := by
  obtain ⟨d, rfl⟩ := Nat.le.dest hk
  exact ⟨by rw [runK_add, h.1, runK_done h.2], h.2⟩
theorem EndsIn.step {n : Nat} {m m₁ m' : M} (e : m.step = m₁) (h : EndsIn n m₁ m') : EndsIn (n + 1) m m' := ⟨by rw [runK, e]; exact h.1, h.2⟩
theorem EndsIn.here {m m' : M} (e : m.step = m') (h : m'.outcome.isSome = true) : EndsIn 1 m m' := ⟨e, h⟩
def code1 : Array Nat := #[14, 4, 0, 1, 1, 6, 1, 16, 46, 1]
def S1 (text : Array Nat) (lim p : Nat) (first : Bool) (seen : Seen) : M :=
  { code := code1, text, lim, start := p, lastStart := lim, pc := 5, pos := p, handed := p, outermost := first, marks := #[], frames := [{ wait := .nextStart, pc := 5, pos := p, outermost := first }], weight := 1, seen }
theorem s1_start (text : Array Nat) (p : Nat) (h : p < text.size) : forSearch code1 text 0 p text.size false = S1 text text.size p true (({} : Seen).add 14) := by
  unfold forSearch
  have e : (decide (p > text.size) || decide (text.size - p < (header code1).1)) = false := by
    rw [show (header code1).1 = 1 from rfl]; simp; omega
  simp only [e]
  rfl
def isBol (text : Array Nat) (p : Nat) : Bool := p == 0 || text.getD (p - 1) 0 == 10
theorem s1_at (text : Array Nat) (lim p : Nat) (first : Bool) (seen : Seen) :
    (S1 text lim p first seen).step = if isBol text p = true then { S1 text lim p first ((seen.add 6).add 44) with pc := 7 } else { S1 text lim p first ((seen.add 6).add 44) with answer := some false } := by
  rfl
theorem s1_lit (text : Array Nat) (lim p : Nat) (first : Bool) (seen : Seen) :
    M.step { S1 text lim p first seen with pc := 7 } = if p ≥ lim then { S1 text lim p first (seen.add 16) with pc := 7, answer := some false } else
      if (text.getD p 0 == 46) = true then { S1 text lim p first (seen.add 16) with pc := 9, pos := p + 1 } else { S1 text lim p first (seen.add 16) with pc := 7, answer := some false } := by
  show (if p ≥ lim then _ else (match (Except.ok (text.getD p 0 == 46, seen.add 16) : Except String (Bool × Seen)) with | .error why => _ | .ok (false, seen) => _ | .ok (true, seen) => _)) = _
  by_cases h : p ≥ lim
  · rw [if_pos h, if_pos h]; rfl
  · rw [if_neg h, if_neg h]
    cases h2 : (text.getD p 0 == 46)
    · rfl
    · rfl
theorem s1_no (text : Array Nat) (lim p pc : Nat) (first : Bool) (seen : Seen) :
    M.step { S1 text lim p first seen with pc := pc, answer := some false } = if p < lim then S1 text lim (p + 1) false seen else
      { S1 text lim p first seen with frames := [], weight := 0, answer := some false } := by
  show (if p < lim then _ else _) = _
  by_cases h : p < lim
  · rw [if_pos h, if_pos h]; rfl
  · rw [if_neg h, if_neg h]; rfl
theorem s1_end (text : Array Nat) (lim p : Nat) (first : Bool) (seen : Seen) :
    M.step { S1 text lim p first seen with frames := [], weight := 0, answer := some false } = { S1 text lim p first seen with frames := [], weight := 0, answer := some false, outcome := some .failed } := rfl
theorem s1_yes (text : Array Nat) (lim p : Nat) (first : Bool) (seen : Seen) :
    runK 3 { S1 text lim p first seen with pc := 9, pos := p + 1 } = { S1 text lim p first (seen.add 1) with handed := p + 1, frames := [], weight := 0, answer := some true, outcome := some .matched } := by
  cases first <;> rfl
/-- where a dot stands at a row's beginning -/
def dotAt (text : Array Nat) (p : Nat) : Bool := isBol text p && text.getD p 0 == 46
def Hits (m' : M) (q e : Nat) : Prop := m'.outcome = some .matched ∧ m'.start = q ∧ m'.handed = e
def Misses (m' : M) : Prop := m'.outcome = some .failed
/-- the first place from p on that P marks, or none -/
def FirstAt (P : Nat → Bool) (p lim q : Nat) : Prop := p ≤ q ∧ q < lim ∧ P q = true ∧ ∀ r, p ≤ r → r < q → P r = false
def NoneAt (P : Nat → Bool) (p lim : Nat) : Prop := ∀ r, p ≤ r → r < lim → P r = false
theorem FirstAt.skip {P : Nat → Bool} {p lim q : Nat} (h0 : P p = false) (h : FirstAt P (p + 1) lim q) : FirstAt P p lim q :=
  ⟨by have := h.1; omega, h.2.1, h.2.2.1, fun r h1 h2 => by
    by_cases e : r = p
    · rw [e]; exact h0
    · exact h.2.2.2 r (by omega) h2⟩
theorem NoneAt.skip {P : Nat → Bool} {p lim : Nat} (h0 : P p = false) (h : NoneAt P (p + 1) lim) : NoneAt P p lim := fun r h1 h2 => by
  by_cases e : r = p
  · rw [e]; exact h0
  · exact h r (by omega) h2
theorem s1_falls (text : Array Nat) (lim p : Nat) (first : Bool) (seen : Seen) (h : dotAt text p = false ∨ lim ≤ p) :
    ∃ (j : Nat) (pc : Nat) (seen' : Seen), j ≤ 2 ∧ runK j (S1 text lim p first seen) = { S1 text lim p first seen' with pc := pc, answer := some false } := by
  by_cases hb : isBol text p = true
  · refine ⟨2, 7, (((seen.add 6).add 44).add 16), Nat.le_refl _, ?_⟩
    rw [runK, runK, s1_at, if_pos hb, s1_lit]
    by_cases hp : p ≥ lim
    · rw [if_pos hp]; rfl
    · rw [if_neg hp, if_neg]
      · rfl
      · rcases h with h | h
        · unfold dotAt at h; rw [hb, Bool.true_and] at h; rw [h]; exact Bool.false_ne_true
        · exact absurd h hp
  · refine ⟨1, 5, ((seen.add 6).add 44), by omega, ?_⟩
    rw [runK, s1_at, if_neg hb]
    rfl
theorem EndsIn.after {j n : Nat} {m m₁ m' : M} (e : runK j m = m₁) (h : EndsIn n m₁ m') : EndsIn (j + n) m m' := ⟨by rw [runK_add, e]; exact h.1, h.2⟩
theorem search1 (text : Array Nat) : ∀ (k p : Nat) (first : Bool) (seen : Seen), p + k = text.size → 
    ∃ m', EndsIn (3 * k + 8) (S1 text text.size p first seen) m' ∧ ((∃ q, FirstAt (dotAt text) p text.size q ∧ Hits m' q (q + 1)) ∨ (NoneAt (dotAt text) p text.size ∧ Misses m')) := by
  intro k
  induction k with
  | zero =>
    intro p first seen hp
    obtain ⟨j, pc, seen', hj, e⟩ := s1_falls text text.size p first seen (.inr (by omega))
    refine ⟨_, EndsIn.le (EndsIn.after e (EndsIn.step ((s1_no _ _ _ _ _ _).trans (if_neg (by omega))) (EndsIn.here (s1_end _ _ _ _ _) rfl))) (by omega), .inr ⟨fun r h1 h2 => absurd h2 (by omega), rfl⟩⟩
  | succ k ih => 
    intro p first seen hp
    have hlt : p < text.size := by omega
    cases hd : dotAt text p with
    | true =>
      have h1 : isBol text p = true := by unfold dotAt at hd; rw [Bool.and_eq_true] at hd; exact hd.1
      have h2 : (text.getD p 0 == 46) = true := by unfold dotAt at hd; rw [Bool.and_eq_true] at hd; exact hd.2
      refine ⟨_, EndsIn.le (EndsIn.step ((s1_at _ _ _ _ _).trans (if_pos h1)) (EndsIn.step ((s1_lit _ _ _ _ _).trans ((if_neg (by omega)).trans (if_pos h2))) ⟨s1_yes _ _ _ _ _, rfl⟩)) (by omega), .inl ⟨p, ⟨Nat.le_refl _, hlt, hd, fun r a b => absurd b (by omega)⟩, rfl, rfl, rfl⟩⟩
    | false =>
      obtain ⟨j, pc, seen', hj, e⟩ := s1_falls text text.size p first seen (.inl hd)
      obtain ⟨m', hm, hr⟩ := ih (p + 1) false seen' (by omega)
      refine ⟨m', EndsIn.le (EndsIn.after e (EndsIn.step ((s1_no _ _ _ _ _ _).trans (if_pos hlt)) hm)) (by omega), ?_⟩
      rcases hr with ⟨q, hq, hh⟩ | ⟨hn, hh⟩
      · exact .inl ⟨q, hq.skip hd, hh⟩
      · exact .inr ⟨hn.skip hd, hh⟩
theorem fs1 (text : Array Nat) (p : Nat) (hp : p ≤ text.size) : ∃ m', EndsIn (3 * text.size + 8) (forSearch code1 text 0 p text.size false) m' ∧ ((∃ q, FirstAt (dotAt text) p text.size q ∧ Hits m' q (q + 1)) ∨ (NoneAt (dotAt text) p text.size ∧ Misses m')) := by
  by_cases h : p < text.size
  · rw [s1_start text p h]
    obtain ⟨m', hm, hr⟩ := search1 text (text.size - p) p true (({} : Seen).add 14) (by omega)
    exact ⟨m', hm.le (by omega), hr⟩
  · have hp : p = text.size := by omega
    subst hp
    have e : (decide (text.size > text.size) || decide (text.size - text.size < (header code1).1)) = true := by
      rw [show (header code1).1 = 1 from rfl]; simp
    have e2 : forSearch code1 text 0 text.size text.size false = { code := code1, text, lim := text.size, start := text.size, pc := 5, pos := text.size, handed := text.size, marks := #[], answer := some false, seen := ({} : Seen).add 14 } := by
      unfold forSearch
      simp only [e]
      rfl
    rw [e2]
    exact ⟨_, EndsIn.le (n := 1) (EndsIn.here rfl rfl) (by omega), .inr ⟨fun r h1 h2 => absurd h2 (by omega), rfl⟩⟩
def code3 : Array Nat := #[14, 9, 4, 1, 2, 16, 10, 16, 13, 0, 7, 7, 16, 13, 16, 10, 15, 18, 5, 16, 10, 15, 13, 11, 16, 13, 5, 5, 0, 16, 10, 1, 15, 2, 0, 1]
def S3 (text : Array Nat) (lim p : Nat) (first : Bool) (seen : Seen) : M :=
  { code := code3, text, lim, start := p, lastStart := lim, pc := 10, pos := p, handed := p, outermost := first, marks := #[], frames := [{ wait := .nextStart, pc := 10, pos := p, outermost := first }], weight := 1, seen }
def B3 (text : Array Nat) (lim p : Nat) (first : Bool) (seen : Seen) (alt pc pos hd : Nat) (ans : Option Bool) : M :=
  { code := code3, text, lim, start := p, lastStart := lim, pc, pos, handed := hd, outermost := first, marks := #[], frames := [{ wait := .nextBranch, pc := alt, pos := p, outermost := first }, { wait := .nextStart, pc := 10, pos := p, outermost := first }], weight := 2, seen, answer := ans }
def L3 (text : Array Nat) (lim p : Nat) (first : Bool) (seen : Seen) (pos : Nat) (ans : Option Bool) : M :=
  { code := code3, text, lim, start := p, lastStart := lim, pc := 29, pos, handed := pos, outermost := false, marks := #[], frames := [{ wait := .lookNot, pc := 26, pos := pos, outermost := first }, { wait := .nextBranch, pc := 23, pos := p, outermost := first }, { wait := .nextStart, pc := 10, pos := p, outermost := first }], weight := 3, seen, answer := ans }
section
variable (text : Array Nat) (lim p : Nat) (first : Bool) (seen : Seen)
theorem b3_in : (S3 text lim p first seen).step = B3 text lim p first (seen.add 7) 11 12 p p none := rfl
theorem b3_lit (alt pc pos hd ch : Nat) (h : pc < 36) (hw : code3.getD pc 0 = 16) (hc : code3.getD (pc + 1) 0 = ch) :
    (B3 text lim p first seen alt pc pos hd none).step = if pos ≥ lim ∨ text.getD pos 0 ≠ ch then B3 text lim p first (seen.add 16) alt pc pos hd (some false) else B3 text lim p first (seen.add 16) alt (pc + 2) (pos + 1) hd none := by
  have e : (B3 text lim p first seen alt pc pos hd none).step = (B3 text lim p first seen alt pc pos hd none).exec := by
    show (if pc < 36 then _ else _) = _
    rw [if_pos h]
  have ho : ops[(B3 text lim p first seen alt pc pos hd none).word 0]? = some .LITERAL := by
    show ops[code3.getD (pc + 0) 0]? = _
    rw [Nat.add_zero, hw]; rfl
  have hw0 : (B3 text lim p first seen alt pc pos hd none).word 0 = 16 := hw
  have ha : accepts code3 pc (text.getD pos 0) (seen.add 16) = .ok (text.getD pos 0 == ch, seen.add 16) := by
    unfold accepts
    rw [hw]
    show Except.ok (text.getD pos 0 == code3.getD (pc + 1) 0, seen.add 16) = _
    rw [hc]
  have hi : itemWidth code3 pc = 2 := by unfold itemWidth; rw [hw]; rfl
  rw [e]
  unfold M.exec
  rw [ho, hw0]
  show (if pos ≥ lim then B3 text lim p first (seen.add 16) alt pc pos hd (some false) else (match accepts code3 pc (text.getD pos 0) (seen.add 16) with
    | .error why => _
    | .ok (false, seen) => B3 text lim p first seen alt pc pos hd (some false)
    | .ok (true, seen) => B3 text lim p first seen alt (pc + itemWidth code3 pc) (pos + 1) hd none)) = _
  rw [ha, hi]
  by_cases h1 : pos ≥ lim
  · rw [if_pos h1, if_pos (.inl h1)]
  · rw [if_neg h1]
    by_cases h2 : text.getD pos 0 = ch
    · rw [if_neg (by rintro (h | h); exact h1 h; exact h h2)]
      rw [show (text.getD pos 0 == ch) = true by simpa using h2]
    · rw [if_pos (.inr h2)]
      rw [show (text.getD pos 0 == ch) = false by simpa using h2]
theorem b3_alt2 (pc pos hd : Nat) : (B3 text lim p first seen 11 pc pos hd (some false)).step = B3 text lim p first seen 18 19 p p none := rfl
theorem b3_alt3 (pc pos hd : Nat) : (B3 text lim p first seen 18 pc pos hd (some false)).step = B3 text lim p first seen 23 24 p p none := rfl
theorem b3_look (pos hd : Nat) : (B3 text lim p first seen 23 26 pos hd none).step = L3 text lim p first (seen.add 5) pos none := rfl
theorem l3_lit (pos : Nat) : (L3 text lim p first seen pos none).step = if pos ≥ lim ∨ text.getD pos 0 ≠ 10 then L3 text lim p first (seen.add 16) pos (some false) else { L3 text lim p first (seen.add 16) pos none with pc := 31, pos := pos + 1 } := by
  show (if pos ≥ lim then L3 text lim p first (seen.add 16) pos (some false) else (match (Except.ok (text.getD pos 0 == 10, seen.add 16) : Except String (Bool × Seen)) with | .error why => _ | .ok (false, seen) => L3 text lim p first seen pos (some false) | .ok (true, seen) => { L3 text lim p first seen pos none with pc := 31, pos := pos + 1 })) = _
  by_cases h1 : pos ≥ lim
  · rw [if_pos h1, if_pos (.inl h1)]
  · rw [if_neg h1]
    by_cases h2 : text.getD pos 0 = 10
    · rw [if_neg (by rintro (h | h); exact h1 h; exact h h2)]
      rw [show (text.getD pos 0 == 10) = true by simpa using h2]
    · rw [if_pos (.inr h2)]
      rw [show (text.getD pos 0 == 10) = false by simpa using h2]
theorem l3_no (pos : Nat) : (L3 text lim p first seen pos (some false)).step = B3 text lim p first seen 23 32 pos pos none := rfl
def D3 (e : Nat) : M :=
  { code := code3, text, lim, start := p, lastStart := lim, pc := 10, pos := p, handed := e, outermost := first, marks := #[], frames := [], weight := 0, seen, answer := some true, outcome := some .matched }
theorem b3_end1 (pos hd : Nat) : runK 5 (B3 text lim p first seen 11 16 pos hd none) = D3 text lim p first ((seen.add 15).add 1) pos := by cases first <;> kernel_rfl
theorem b3_end2 (pos hd : Nat) : runK 5 (B3 text lim p first seen 18 21 pos hd none) = D3 text lim p first ((seen.add 15).add 1) pos := by cases first <;> kernel_rfl
theorem b3_end3 (pos hd : Nat) : runK 5 (B3 text lim p first seen 23 32 pos hd none) = D3 text lim p first ((seen.add 15).add 1) pos := by cases first <;> kernel_rfl
/-- where an end of a row stands, and how far it goes -/
def eolAt (text : Array Nat) (p : Nat) : Bool := text.getD p 0 == 10 || text.getD p 0 == 13
def eolEnd (text : Array Nat) (p : Nat) : Nat := if text.getD p 0 = 13 ∧ text.getD (p + 1) 0 = 10 then p + 2 else p + 1
theorem s3_hits (hlt : p < text.size) (h : eolAt text p = true) : ∃ m', EndsIn 15 (S3 text text.size p first seen) m' ∧ Hits m' p (eolEnd text p) := by
  have hout : ∀ q, text.size ≤ q → text.getD q 0 = 0 := fun q hq => by simp [Array.getD_eq_getD_getElem?, hq]
  by_cases h13 : text.getD p 0 = 13
  · by_cases h10 : text.getD (p + 1) 0 = 10
    · have hl : p + 1 < text.size := by
        rcases Nat.lt_or_ge (p + 1) text.size with h | h
        · exact h
        · have := hout _ h; omega
      refine ⟨_, EndsIn.le (EndsIn.step (b3_in _ _ _ _ _) (EndsIn.step ((b3_lit text _ p first _ 11 12 p p 13 (by decide) rfl rfl).trans (if_neg (by omega))) (EndsIn.step ((b3_lit text _ p first _ 11 14 (p + 1) p 10 (by decide) rfl rfl).trans (if_neg (by omega))) ⟨b3_end1 _ _ _ _ _ _ _, rfl⟩))) (by omega), rfl, rfl, ?_⟩
      unfold eolEnd; rw [if_pos ⟨h13, h10⟩]; rfl
    · refine ⟨_, EndsIn.le (EndsIn.step (b3_in _ _ _ _ _) (EndsIn.step ((b3_lit text _ p first _ 11 12 p p 13 (by decide) rfl rfl).trans (if_neg (by omega))) (EndsIn.step ((b3_lit text _ p first _ 11 14 (p + 1) p 10 (by decide) rfl rfl).trans (if_pos (.inr h10)))
        (EndsIn.step (b3_alt2 _ _ _ _ _ _ _ _) (EndsIn.step ((b3_lit text _ p first _ 18 19 p p 10 (by decide) rfl rfl).trans (if_pos (.inr (by omega))))
        (EndsIn.step (b3_alt3 _ _ _ _ _ _ _ _) (EndsIn.step ((b3_lit text _ p first _ 23 24 p p 13 (by decide) rfl rfl).trans (if_neg (by omega)))
        (EndsIn.step (b3_look _ _ _ _ _ _ _) (EndsIn.step ((l3_lit _ _ _ _ _ _).trans (if_pos (.inr h10))) (EndsIn.step (l3_no _ _ _ _ _ _) ⟨b3_end3 _ _ _ _ _ _ _, rfl⟩)))))))))) (by omega), rfl, rfl, ?_⟩
      unfold eolEnd; rw [if_neg (fun h => h10 h.2)]; rfl
  · have h10 : text.getD p 0 = 10 := by
      unfold eolAt at h; simp only [Bool.or_eq_true, beq_iff_eq] at h; omega
    refine ⟨_, EndsIn.le (EndsIn.step (b3_in _ _ _ _ _) (EndsIn.step ((b3_lit text _ p first _ 11 12 p p 13 (by decide) rfl rfl).trans (if_pos (.inr h13)))
        (EndsIn.step (b3_alt2 _ _ _ _ _ _ _ _) (EndsIn.step ((b3_lit text _ p first _ 18 19 p p 10 (by decide) rfl rfl).trans (if_neg (by omega))) ⟨b3_end2 _ _ _ _ _ _ _, rfl⟩)))) (by omega), rfl, rfl, ?_⟩
    unfold eolEnd; rw [if_neg (fun h => h13 h.1)]; rfl
theorem inSet3 (c : Nat) : inSet code3 c 36 5 true seen = if (c == 10) = true then .ok (true, seen.add 16) else if (c == 13) = true then .ok (true, (seen.add 16).add 16) else .ok (false, ((seen.add 16).add 16).add 0) := rfl
theorem admitted3 (m : M) (hc : m.code = code3) (ht : m.text = text) (hl : m.lim = text.size) : ∀ (k p : Nat) (seen : Seen), p + k = text.size → 
    ∃ seen', ((∃ q, FirstAt (eolAt text) p text.size q ∧ admitted m (k + 1) p seen = .ok (some q, seen')) ∨ (NoneAt (eolAt text) p text.size ∧ admitted m (k + 1) p seen = .ok (none, seen'))) := by
  intro k
  induction k with
  | zero =>
    intro p seen hp
    refine ⟨seen, .inr ⟨fun r h1 h2 => absurd h2 (by omega), ?_⟩⟩
    rw [admitted, if_pos (by omega)]
  | succ k ih =>
    intro p seen hp
    have hs : inSet m.code (m.text.getD p 0) m.code.size 5 true seen = if (text.getD p 0 == 10) = true then .ok (true, seen.add 16) else if (text.getD p 0 == 13) = true then .ok (true, (seen.add 16).add 16) else .ok (false, ((seen.add 16).add 16).add 0) := by
      rw [hc, ht]; exact inSet3 seen (text.getD p 0)
    by_cases h10 : (text.getD p 0 == 10) = true
    · refine ⟨seen.add 16, .inl ⟨p, ⟨Nat.le_refl _, by omega, by unfold eolAt; rw [h10]; rfl, fun r a b => absurd b (by omega)⟩, ?_⟩⟩
      rw [admitted, if_neg (by omega), hs, if_pos h10]
    · by_cases h13 : (text.getD p 0 == 13) = true
      · refine ⟨(seen.add 16).add 16, .inl ⟨p, ⟨Nat.le_refl _, by omega, by unfold eolAt; rw [h13, Bool.or_true], fun r a b => absurd b (by omega)⟩, ?_⟩⟩
        rw [admitted, if_neg (by omega), hs, if_neg h10, if_pos h13]
      · have hn : eolAt text p = false := by unfold eolAt; rw [Bool.or_eq_false_iff]; exact ⟨eq_false_of_ne_true h10, eq_false_of_ne_true h13⟩
        obtain ⟨seen', hr⟩ := ih (p + 1) (((seen.add 16).add 16).add 0) (by omega)
        refine ⟨seen', ?_⟩
        rw [admitted, if_neg (by omega), hs, if_neg h10, if_neg h13]
        rcases hr with ⟨q, hq, e⟩ | ⟨hq, e⟩
        · exact .inl ⟨q, hq.skip hn, e⟩
        · exact .inr ⟨hq.skip hn, e⟩
def F3 (p : Nat) : M := { code := code3, text, lim := text.size, start := p, lastStart := text.size, pc := 10, pos := p, handed := p, marks := #[], seen := ({} : Seen).add 14 }
theorem fs3 (hp : p ≤ text.size) : ∃ m', EndsIn 15 (forSearch code3 text 0 p text.size false) m' ∧ ((∃ q, FirstAt (eolAt text) p text.size q ∧ Hits m' q (eolEnd text q)) ∨ (NoneAt (eolAt text) p text.size ∧ Misses m')) := by
  by_cases h : p < text.size
  · have e : (decide (p > text.size) || decide (text.size - p < (header code3).1)) = false := by
      rw [show (header code3).1 = 1 from rfl]; simp; omega
    have e2 : forSearch code3 text 0 p text.size false = (F3 text p).attemptFrom p true := by
      unfold forSearch
      simp only [e]
      rfl
    have e3 : (F3 text p).attemptFrom p true = match admitted (F3 text p) (text.size + 1 - p) p (({} : Seen).add 14) with
      | .ok (some s, seen) => { F3 text p with mustAdvance := false, seen }.attemptAt s true
      | .ok (none, seen) => { F3 text p with seen }.say false
      | .error why => (F3 text p).stick why := rfl
    rw [e2, e3]
    obtain ⟨seen', hr⟩ := admitted3 text (F3 text p) rfl rfl rfl (text.size - p) p (({} : Seen).add 14) (by omega)
    rw [show text.size - p + 1 = text.size + 1 - p by omega] at hr
    rcases hr with ⟨q, hq, e⟩ | ⟨hq, e⟩
    · rw [e]
      obtain ⟨m', hm, hh⟩ := s3_hits text q true seen' hq.2.1 hq.2.2.1
      exact ⟨m', hm, .inl ⟨q, hq, hh⟩⟩
    · rw [e]
      exact ⟨_, EndsIn.le (n := 1) (EndsIn.here rfl rfl) (by omega), .inr ⟨hq, rfl⟩⟩
  · have hp : p = text.size := by omega
    subst hp
    have e : (decide (text.size > text.size) || decide (text.size - text.size < (header code3).1)) = true := by
      rw [show (header code3).1 = 1 from rfl]; simp
    have e2 : forSearch code3 text 0 text.size text.size false = { F3 text text.size with lastStart := 0, answer := some false } := by
      unfold forSearch
      simp only [e]
      rfl
    rw [e2]
    exact ⟨_, EndsIn.le (n := 1) (EndsIn.here rfl rfl) (by omega), .inr ⟨fun r h1 h2 => absurd h2 (by omega), rfl⟩⟩
end
end PartSre1
section PartBi1
open PySem PySem.W PyProof.Rows
set_option maxRecDepth 100000
set_option maxHeartbeats 1000000
open PySem.Builtin PySem.Calls
section
variable {prog : Program} {w : World} {A : Around} {E : Value → Shared → Prop} {s : Shared} {Q : Value → Shared → Prop}
theorem type_bytes {b : Array UInt8} {t : Tok} (hq : Q (.type "bytes") s) : wpAny (model prog w) A (call (.type "type") [.bytes b t]) Q E s :=
  call_type_of (typeIs_bytes _ _ _) (by decide +kernel) hq
end
section
open PySem.Builtin._codecs
theorem encodeRoad_ascii (id : String) (self : Value) (x : Str) (errors : Option Str) : encodeRoad id self x (Str.ofString "ascii") errors = (do mkBytes (← encodeNarrow id asciiCodec errors self x)) := by
  kernel_rfl
theorem encode_ascii_tree (x : Str) (t t' : Tok) : «str.encode» ⟨[.str x t, .str (Str.ofString "ascii") t'], []⟩ = (do ret (← encodeRoad "str.encode" (.str x t) x (Str.ofString "ascii") none)) := by kernel_rfl
/-- a text's octets in ascii -/
def asciiOf (x : Str) : Array UInt8 := x.cps.map (·.toUInt8)
theorem foldl_one (l : List Nat) (acc : Array UInt8) : l.foldl (fun acc y => acc ++ ([y.toUInt8] : List UInt8).toArray) acc = acc ++ (l.map (·.toUInt8)).toArray := by
  induction l generalizing acc with
  | nil => simp
  | cons a r ih => rw [List.foldl_cons, ih]; simp
theorem encodeNarrow_ascii (id : String) (self : Value) (x : Str) (h : ∀ c ∈ x.cps, c < 128) (hsz : x.length ≤ sizeLine) : encodeNarrow id asciiCodec none self x = pure (asciiOf x) := by
  have hf : Array.findIdx? asciiCodec.bad x.cps = none := by
    rw [Array.findIdx?_eq_none_iff]
    intro c hc
    have := h c hc
    simp [asciiCodec]; omega
  have hfold : Array.foldl (fun acc y => acc ++ (asciiCodec.bytesOf y).toArray) #[] x.cps = asciiOf x := by
    have := foldl_one x.cps.toList #[]
    unfold asciiOf
    rw [← Array.foldl_toList]
    exact this.trans (by rw [Array.empty_append, ← List.map_toArray, Array.toArray_toList])
  unfold encodeNarrow
  simp only [Std.Legacy.Range.forIn_eq_forIn_range']
  rcases Nat.eq_zero_or_pos x.cps.size with hn | hp
  · have hl : x.length = 0 := hn
    have he : x.cps = #[] := Array.eq_empty_of_size_eq_zero hn
    simp [hl, asciiOf, he, Std.Legacy.Range.size]
  · obtain ⟨n, hn⟩ : ∃ n, x.cps.size = n + 1 := ⟨x.cps.size - 1, by omega⟩
    have hl : x.length = n + 1 := hn
    have h0 : x.cps[0]? = some (x.cps[0]'(by omega)) := by simp
    have hb : asciiCodec.bad (x.cps[0]'(by omega)) = false := by
      have := h _ (Array.getElem_mem (xs := x.cps) (i := 0) (by omega))
      simp [asciiCodec]; omega
    have hz : x.cps[x.cps.size]? = none := by simp
    have ho : (asciiOf x).size = n + 1 := by simp [asciiOf, hn]
    have hsz' : ¬ ((asciiOf x).size > sizeLine) := by rw [ho, ← hl]; exact Nat.not_lt.mpr hsz
    have hs0 : ¬ ((#[] : Array UInt8).size > sizeLine) := by decide
    have hr : List.range' 0 (Std.Legacy.Range.size [:x.length]) 1 = 0 :: List.range' 1 n 1 := by
      rw [hl]; simp [Std.Legacy.Range.size, List.range'_succ]
    rw [hr, List.forIn_cons]
    simp only [if_neg hs0, h0, hb, Bool.not_false, if_true, Array.extract_size, hf, Option.getD_none, hfold, pure_bind, Nat.zero_add]
    rcases n with _ | n
    · simp
    · rw [List.range'_succ, List.forIn_cons]
      simp only [if_neg hsz', hz, pure_bind]
variable {prog : Program} {w : World} {A : Around} {E : Value → Shared → Prop} {s : Shared} {Q : Value → Shared → Prop}
theorem meth_encode {M : Model} {x : Str} {t : Tok} {pl : Sem Bool} {Q : Value × List Value → Shared → Prop} (h : Q (.builtin "str.encode", [.str x t]) s) : wpAny M A (getMethod (.str x t) "encode" pl) Q E s :=
  getMethod_builtin (typeIs_str _ _ _) F.plainAttrs_str F.slot_str_encode F.type_str_encode (fun _ e => nomatch e) h
theorem call_encode {x : Str} {t t' : Tok} (hx : ∀ c ∈ x.cps, c < 128) (hsz : x.length ≤ 16777216) (h : ∀ t' k, Q (.bytes (asciiOf x) t') { s with toks := k }) :
    wpAny (model prog w) A (call (.builtin "str.encode") [.str x t, .str (Str.ofString "ascii") t']) Q E s := by
  refine call_meets F.slot_str_encode (typeIs_str _ _ _) F.entry_str_encode (F.args_str_encode_2 _ _)
    (S := fun _ R s => ∀ t' k, R (.ok (.ret (.bytes (asciiOf x) t'))) { s with toks := k }) ?_ h
  refine .of_wp fun prog w A R s hS => ?_
  rw [encode_ascii_tree, encodeRoad_ascii, encodeNarrow_ascii _ _ _ hx (by rw [sizeLine_eq]; exact hsz)]
  refine wpAny_bind (wpAny_bind (wpAny_pure (wpAny_mkBytes (wpAny_pure ⟨_, rfl, hS _ _⟩) ?_)))
  rw [sizeLine_eq]; simp only [asciiOf, Array.size_map]; exact hsz
/-- octets read as ascii -/
def textOf (b : Array UInt8) : Str := ⟨b.map (·.toNat)⟩
theorem textOf_length (b : Array UInt8) : (textOf b).length = b.size := by simp [textOf, Str.length]
theorem droad_eq {id : String} {b : Array UInt8} : decodeRoad id b (PySem.Str.ofString "ascii") none [] = (runDecoder id asciiDecoder none true b 0 [] >>= fun r => mkStr ⟨r.1⟩) := by kernel_rfl
theorem dec_step (b : Array UInt8) (hb : ∀ c ∈ b, c < 128) (p : Nat) (hp : p < b.size) : asciiDecoder.find true b p = .text [(b.getD p 0).toNat] (p + 1) := by
  have hm : b.getD p 0 < 128 := by
    rw [Array.getD_eq_getD_getElem?, Array.getElem?_eq_getElem hp]
    exact hb _ (Array.getElem_mem hp)
  have hm' : (b.getD p 0).toNat < 128 := by simpa [UInt8.lt_iff_toNat_lt] using hm
  simp only [asciiDecoder]
  rw [if_pos hm']; rfl
theorem forIn_st {σ : Type} {f : Nat → σ → Sem (ForInStep σ)} (st : Nat → σ) (N : Nat) (hstep : ∀ x i, i < N → f x (st i) = pure (.yield (st (i + 1)))) :
    ∀ (l : List Nat) (i : Nat), i + l.length = N → forIn l (st i) f = pure (st N) := by
  intro l
  induction l with
  | nil => intro i h; simp at h; subst h; simp
  | cons a r ih =>
    intro i h
    rw [List.forIn_cons, hstep a i (by simp at h; omega), pure_bind]
    exact ih (i + 1) (by simp at h; omega)
theorem runDecoder_ascii (id : String) (b : Array UInt8) (hb : ∀ c ∈ b, c < 128) (hsz : b.size ≤ sizeLine) : runDecoder id asciiDecoder none true b 0 [] = pure ((textOf b).cps, b.size) := by
  unfold runDecoder
  simp only [Std.Legacy.Range.forIn_eq_forIn_range']
  have e0 : ((0, #[], ({ held := [] } : Faults)) : Nat × Array Nat × Faults) = (fun p : Nat => (p, (b.extract 0 p).map (·.toNat), ({ held := [] } : Faults))) 0 := by simp
  rw [e0, forIn_st (fun p : Nat => (p, (b.extract 0 p).map (·.toNat), ({ held := [] } : Faults))) b.size]
  · simp [textOf]
  · intro x p hp
    have h1 : ¬ ((Array.map (·.toNat) (b.extract 0 p)).size > sizeLine) := by simp; omega
    simp only [if_neg h1, if_neg (Nat.not_le.mpr hp), dec_step b hb p hp]
    congr 2
    refine Prod.ext rfl (Prod.ext ?_ rfl)
    simp only
    rw [Array.extract_succ_right (by omega) hp, Array.map_push, Array.getD_eq_getD_getElem?, Array.getElem?_eq_getElem hp, Option.getD_some, Array.push_eq_append]
  · simp [Std.Legacy.Range.size]
theorem mtext_ascii {t t1 t2 : Tok} {b : Array UInt8} {d : PySem.Str} (hb : ∀ c ∈ b, c < 128) (hsz : b.size ≤ sizeLine) :
    Meets («_codecs.decode.text» ⟨[.bytes b t, .str (PySem.Str.ofString "ascii") t1, .none, .str d t2], []⟩) (fun _ R s => R (.ok (.ret (.str (textOf b) s.toks))) { s with toks := s.toks + 1 }) := by
  refine .of_wp fun prog w A R s hS => ?_
  show wpAny _ _ (Bytes.bytesLike _ (.bytes b t) >>= fun r => _) _ _ s
  refine wpAny_bind (wpAny_of_eq KBd.like_eq ?_)
  refine wpAny_bind (wpAny_of_eq KBd.held_eq ?_)
  show wpAny _ _ (_codecs.decodeRoad _ b (PySem.Str.ofString "ascii") none [] >>= fun v => _) _ _ s
  rw [droad_eq, runDecoder_ascii _ b hb hsz]
  refine wpAny_bind (wpAny_bind (wpAny_pure ?_))
  exact wpAny_mkStr (wpAny_pure ⟨_, rfl, hS⟩) (by have := textOf_length b; unfold Str.length at *; show (textOf b).cps.size ≤ _; omega)
theorem args_bytes_decode_2 (a b : Value) : argsOk "bytes.decode" ⟨[a, b], []⟩ := by
  unfold argsOk; kernel_rfl
theorem decode_tree {c : UInt8} {cs : List UInt8} {t t' : Tok} : «bytes.decode» ⟨[.bytes (c :: cs).toArray t, .str (Str.ofString "ascii") t'], []⟩ = (mkStr (PySem.Str.ofString "utf-8") >>= fun _ => mkStr (PySem.Str.ofString "ascii") >>= fun e => mkStr (PySem.Str.ofString "bytes.decode") >>= fun d =>
    call (.builtin "_codecs.decode.text") [.bytes (c :: cs).toArray t, e, .none, d] >>= fun v => ret v) := by kernel_rfl
theorem meth_decode {M : Model} {b : Array UInt8} {t : Tok} {pl : Sem Bool} {Q : Value × List Value → Shared → Prop} (h : Q (.builtin "bytes.decode", [.bytes b t]) s) : wpAny M A (getMethod (.bytes b t) "decode" pl) Q E s :=
  KBd.method h
theorem call_decode {b : Array UInt8} {t t' : Tok} (hne : b.size ≠ 0) (hb : ∀ c ∈ b, c < 128) (hsz : b.size ≤ 16777216) (h : ∀ t' k, Q (.str (textOf b) t') { s with toks := k }) :
    wpAny (model prog w) A (call (.builtin "bytes.decode") [.bytes b t, .str (Str.ofString "ascii") t']) Q E s := by
  refine call_meets FB.slot_bytes_decode (typeIs_bytes _ _ _) FB.entry_bytes_decode (args_bytes_decode_2 _ _)
    (S := fun _ R s => ∀ t' k, R (.ok (.ret (.str (textOf b) t'))) { s with toks := k }) ?_ h
  refine .of_wp fun prog w A R s hS => ?_
  obtain ⟨l⟩ := b
  obtain _ | ⟨c, cs⟩ := l
  · simp at hne
  rw [decode_tree]
  refine wpAny_bind (wpAny_mkStr ?_ (by decide))
  refine wpAny_bind (wpAny_mkStr ?_ (by decide))
  refine wpAny_bind (wpAny_mkStr ?_ (by decide))
  exact wpAny_bind (call_function_meets KBd.kind_text KBd.plain_text KBd.entry_text (KBd.args_text _ _ _ _) (mtext_ascii hb (by rw [sizeLine_eq]; exact hsz)) (wpAny_pure ⟨_, rfl, hS _ _⟩))
end
end PartBi1
section PartBi2
open PySem PySem.W PyProof.Rows
set_option maxRecDepth 100000
set_option maxHeartbeats 1000000
open PySem.Builtin PySem.Calls
section
theorem mt_entry : entryFor table "bytes.maketrans" = some Builtin.«bytes.maketrans» := entryFor_of_tree (by kernel_rfl)
theorem mt_check (a b : Value) : checkBuiltinCall "bytes.maketrans" ⟨[a, b], []⟩ = pure () := by kernel_rfl
theorem mt_plain : plainId "bytes.maketrans" = true := by decide +kernel
theorem meta_bytes : typeOf (.type "bytes") = pure (.type "type") := by kernel_rfl
theorem mt_find : findCls [] (.type "bytes") (.type "type") "maketrans" = some (.val (.builtin "bytes.maketrans")) := by kernel_rfl
theorem tr_slot : Slot "bytes" "translate" "bytes.translate" :=
  .of (owner := "bytes") (n := "translate") (by rw [typeLookup_type, builtinLookup_eq_fast]; kernel_rfl) (by decide +kernel) (by decide +kernel) (by decide +kernel)
    (by first | exact .inl (by decide +kernel) | exact .inr (by decide +kernel)) (by rw [isSubtype_type]; kernel_rfl)
theorem tr_type : typeOf (.builtin "bytes.translate") = pure (.type "method_descriptor") := by show builtinType _ = _; rw [builtinType_eq_fast]; kernel_rfl
theorem tr_entry : entryFor table "bytes.translate" = some Builtin.«bytes.translate» := entryFor_of_tree (by kernel_rfl)
theorem tr_args (a b : Value) : argsOk "bytes.translate" ⟨[a, b], []⟩ := by
  unfold argsOk; kernel_rfl
def transTab (f x : Array UInt8) : Array UInt8 := (f.toList.zip x.toList).foldl (fun t p => t.setIfInBounds p.1.toNat p.2) ((Array.range 256).map (·.toUInt8))
theorem foldl_set_size (l : List (UInt8 × UInt8)) (t : Array UInt8) : (l.foldl (fun t p => t.setIfInBounds p.1.toNat p.2) t).size = t.size := by
  induction l generalizing t with
  | nil => rfl
  | cons a r ih => rw [List.foldl_cons, ih]; simp
theorem transTab_size (f x : Array UInt8) : (transTab f x).size = 256 := by
  unfold transTab; rw [foldl_set_size]; simp
variable {prog : Program} {w : World} {A : Around} {E : Value → Shared → Prop} {s : Shared} {Q : Value → Shared → Prop}
theorem meth_maketrans {pl : Sem Bool} {h₀ : Heap} {L : Addr} {m : Str → Option Value} {Q : Value × List Value → Shared → Prop} (F : Fr h₀ L s.heap m) (h : Q (.builtin "bytes.maketrans", []) { s with toks := s.toks + 1 }) :
    wpAny (model prog w) A (getMethod (.type "bytes") "maketrans" pl) Q E s := by
  have hX : Frag.In [] h₀ := fun a o e => nomatch e
  have h1 : Manifest.isStub "bytes" = false := by decide +kernel
  have h2 : handedIn (.builtin "bytes.maketrans") = true := by decide +kernel
  with_reducible exact method_type F hX meta_bytes h1 mt_find h2 h
theorem call_maketrans {f x : Array UInt8} {t t' : Tok} (hsz : f.size = x.size) (h : ∀ t' k, Q (.bytes (transTab f x) t') { s with toks := k }) :
    wpAny (model prog w) A (call (.builtin "bytes.maketrans") [.bytes f t, .bytes x t']) Q E s := by
  refine wpAny_call (codeAny_call_builtin mt_plain mt_entry ?_)
  rw [mt_check]
  refine wpAny_pure ?_
  have e2 : (f.size != x.size) = false := by simp [hsz]
  have hz : (transTab f x).size ≤ sizeLine := by rw [transTab_size, sizeLine_eq]; decide
  unfold transTab at h hz
  unfold Builtin.«bytes.maketrans» Bytes.maketransM
  refine wpAny_bind (wpAny_of_eq (a := ()) rfl ?_)
  refine wpAny_bind (wpAny_of_eq (a := ()) rfl ?_)
  simp only [List.headD_cons, List.getD_eq_getElem?_getD, List.getElem?_cons_succ, List.getElem?_cons_zero, Option.getD_some, KBd.like_eq, pure_bind, e2, Bool.false_eq_true, if_false]
  generalize (Array.map (fun x : Nat => x.toUInt8) (Array.range 256)) = I at *
  exact wpAny_bind (wpAny_mkBytes (wpAny_pure (h _ _)) hz)
theorem meth_translate {M : Model} {b : Array UInt8} {t : Tok} {pl : Sem Bool} {Q : Value × List Value → Shared → Prop} (h : Q (.builtin "bytes.translate", [.bytes b t]) s) : wpAny M A (getMethod (.bytes b t) "translate" pl) Q E s := by
  with_reducible exact KBd.method_of (.bytes b t) (typeIs_bytes _ _ _) tr_slot tr_type KBd.noRef h
theorem call_translate {b tb : Array UInt8} {t t' : Tok} (htb : tb.size = 256) (hsz : b.size ≤ 16777216) (h : ∀ t' k, Q (.bytes (b.map fun c => tb.getD c.toNat c) t') { s with toks := k }) :
    wpAny (model prog w) A (call (.builtin "bytes.translate") [.bytes b t, .bytes tb t']) Q E s := by
  refine call_meets tr_slot (typeIs_bytes _ _ _) tr_entry (tr_args _ _)
    (S := fun _ R s => ∀ t' k, R (.ok (.ret (.bytes (b.map fun c => tb.getD c.toNat c) t'))) { s with toks := k }) ?_ h
  refine .of_wp fun prog w A R s hS => ?_
  have hf : (b.filter fun x => !(#[] : Array UInt8).contains x) = b := by simp
  have e0 : ([] : List (Str × Value)).any (fun x => x.1 != Str.ofString "delete") = false := rfl
  have e1 : (Value.bytes tb t' == Value.none) = false := rfl
  have e2 : (tb.size != 256) = false := by simp [htb]
  have e3 : ¬ (([Value.bytes tb t'].length + ([] : List (Str × Value)).length) > 2) := by simp
  unfold Builtin.«bytes.translate» Bytes.translateM
  simp only [KBd.like_eq, pure_bind, e0, e1, e2, Bool.false_eq_true, if_false, e3]
  refine wpAny_bind (wpAny_of_eq (a := b) rfl ?_)
  rw [hf]
  by_cases e : (b.map fun c => tb.getD c.toNat c) = b
  · refine bm_if_true (by simpa using e) ?_
    refine wpAny_bind (wpAny_rule ?_)
    refine wpAny_bind (wpAny_of_eq (a := .bytes b t) ?_ (wpAny_pure ⟨_, rfl, ?_⟩))
    · kernel_rfl
    · have := hS t s.toks
      rw [e] at this; exact this
  · refine bm_if_false (by simpa using e) ?_
    refine wpAny_bind (wpAny_mkBytes (wpAny_pure ⟨_, rfl, hS _ _⟩) ?_)
    rw [sizeLine_eq, Array.size_map]; exact hsz
end
end PartBi2
section PartSre2
open PySem PySem.W PyProof.Rows
set_option maxRecDepth 100000
set_option maxHeartbeats 1000000
open PySem.Builtin PySem.Calls PySem.Builtin.Re
section
variable {prog : Program} {w : World} {M : Model} {A : Around} {E : Value → Shared → Prop} {s : Shared}
theorem drive_ends : ∀ (turns k : Nat) (m m' : Sre.M), EndsIn k m m' → k ≤ 4 * turns → 0 < turns → ∀ {Q : Sre.M → Shared → Prop}, Q m' s → wpAny M A (reDrive turns m) Q E s := by
  intro turns
  induction turns with
  | zero => intro k m m' _ _ h0; omega
  | succ n ih =>
    intro k m m' h hk _ Q hq
    have e : reDrive (n + 1) m = if (m.runFor reTurnSteps).outcome.isSome then pure (m.runFor reTurnSteps) else (do rule "sre.turn"; reDrive n (m.runFor reTurnSteps)) := rfl
    rw [e, runFor_runK, show reTurnSteps = 4 from rfl]
    by_cases hd : (runK 4 m).outcome.isSome = true
    · rw [if_pos hd]
      have : m' = runK 4 m := by
        rcases Nat.lt_or_ge k 4 with h4 | h4
        · exact ((h.le (Nat.le_of_lt h4)).1).symm
        · obtain ⟨d, hd'⟩ := Nat.le.dest h4
          rw [← h.1, ← hd', runK_add, runK_done hd]
      exact wpAny_pure (this ▸ hq)
    · rw [if_neg hd]
      have hk4 : 4 < k := by
        rcases Nat.lt_or_ge 4 k with h4 | h4
        · exact h4
        · exact absurd (by rw [(h.le h4).1]; exact h.2) hd
      refine wpAny_bind (wpAny_rule (ih (k - 4) _ m' ⟨?_, h.2⟩ (by omega) (by omega) hq))
      rw [← h.1, ← runK_add]; congr 1; omega
theorem rules_pass {Q : Unit → Shared → Prop} (h : Q () s) (b : Nat → Bool) (f : Nat → String) : ∀ l : List Nat, wpAny M A (forIn l PUnit.unit fun i _ => if b i = true then (do rule (f i); pure (ForInStep.yield PUnit.unit)) else pure (ForInStep.yield PUnit.unit)) Q E s
  | [] => wpAny_pure h
  | a :: r => by
    rw [List.forIn_cons]
    refine wpAny_bind ?_
    by_cases hb : b a = true
    · rw [if_pos hb]
      exact wpAny_bind (wpAny_rule (wpAny_pure (rules_pass h b f r)))
    · rw [if_neg hb]
      exact wpAny_pure (rules_pass h b f r)
theorem run_ends {k : Nat} {m m' : Sre.M} (h : EndsIn k m m') (hk : k ≤ 2 ^ 40) {Q : Option Sre.M → Shared → Prop}
    (hq : (∀ q e, Hits m' q e → Q (some m') s) ∧ (Misses m' → Q none s)) (hor : (∃ q e, Hits m' q e) ∨ Misses m') : wpAny M A (reRunToEnd m) Q E s := by
  unfold reRunToEnd
  refine wpAny_bind (drive_ends _ k m m' h (Nat.le_trans hk (by decide)) (by decide) ?_)
  refine wpAny_bind (rules_pass ?_ _ _ _)
  rcases hor with ⟨q, e, hh⟩ | hh
  · have := hh.1
    rw [this]
    exact wpAny_pure (hq.1 q e hh)
  · have : m'.outcome = _ := hh
    rw [this]
    exact wpAny_pure (hq.2 hh)
end
structure PatAt (h : Heap) (pt ct : Addr) (code : Array Nat) (kind : Nat) : Prop where
  ex : ∃ po fs co items n, h.get? pt = some po ∧ po.data = .fields fs ∧ reRawNat (fs.getD 6 .none) = kind ∧ reRawNat (fs.getD 2 .none) = 0 ∧ fs.getD 5 .none = .ref ct ∧ h.get? ct = some co ∧ co.data = .seq items n ∧ (items.map reRawOf).map (·.toNat) = code
theorem PatAt.keeps {h h' : Heap} {pt ct : Addr} {code : Array Nat} {kind : Nat} (p : PatAt h pt ct code kind) {l : Addr} (hk : ∀ b o, b ≠ l → h.get? b = some o → h'.get? b = some o) (h1 : pt ≠ l) (h2 : ct ≠ l) : PatAt h' pt ct code kind := by
  obtain ⟨po, fs, co, items, n, a1, a2, a3, a4, a5, a6, a7, a8⟩ := p.ex
  exact ⟨⟨po, fs, co, items, n, hk _ _ h1 a1, a2, a3, a4, a5, hk _ _ h2 a6, a7, a8⟩⟩
section
variable {prog : Program} {w : World} {M : Model} {A : Around} {E : Value → Shared → Prop} {s : Shared} {pt ct : Addr} {code text : Array Nat} {kind : Nat} {sv rv : Value}
theorem whole_target {Q : ReTarget → Shared → Prop} (hp : PatAt s.heap pt ct code kind) (hT : reTextOf sv = pure (text, kind)) (hN : reNoCollectionInside sv kind = pure ()) (hk : kind = 0 ∨ kind = 1)
    (h : Q { pattern := .ref pt, string := sv, code, text, kind, groups := 0, pos := 0, lim := text.size } s) : wpAny M A (reWholeTarget (.ref pt) sv) Q E s := by
  obtain ⟨po, fs, co, items, n, a1, a2, a3, a4, a5, a6, a7, a8⟩ := hp.ex
  unfold reWholeTarget fieldsOf
  refine wpAny_bind (wpAny_bind (wpAny_load a1 ?_))
  rw [a2]
  refine wpAny_pure (wpAny_bind (wpAny_of_eq hT ?_))
  simp only [a3]
  have e1 : (kind == 0 && kind == 1) = false := by rcases hk with rfl | rfl <;> rfl
  have e2 : (kind == 1 && kind == 0) = false := by rcases hk with rfl | rfl <;> rfl
  simp only [e1, e2, Bool.false_eq_true, if_false, hN, pure_bind, a4, a5]
  unfold reRawItems seqItems?
  refine wpAny_bind (wpAny_bind (wpAny_bind (wpAny_load a6 ?_)))
  rw [a7]
  refine wpAny_pure (wpAny_pure (wpAny_pure ?_))
  simp only [Option.getD_some]
  rw [a8]
  exact h
theorem loop_entry : entryFor table "re.Pattern.sub.loop" = some Builtin.«re.Pattern.sub.loop» := entryFor_of_tree (by kernel_rfl)
theorem loop_plain : plainId "re.Pattern.sub.loop" = true := by decide +kernel
theorem push_list {l : Addr} {vs : List Value} {v : Value} {Q : Unit → Shared → Prop} (hl : s.heap.IsList l vs.toArray) (hz : vs.length < 16777216)
    (h : ∀ h', h'.IsList l (vs ++ [v]).toArray → (∀ b o, b ≠ l → s.heap.get? b = some o → h'.get? b = some o) → Q () { s with heap := h' }) : wpAny M A (updateSeq l fun x => x.push v) Q E s := by
  obtain ⟨o, ho, hc, n, hd⟩ := hl
  refine wpAny_updateSeq ho hd (h _ ?_ fun b o' hb e => (Heap.get?_update_ne _ _ _ _ hb).trans e) (by rw [sizeLine_eq]; simp; omega) (by rw [sizeLine_eq]; simp; omega)
  obtain ⟨c, d, dt, sl⟩ := o
  simp only at hd hc; subst hd; subst hc
  exact ⟨_, Heap.get?_update_self _ ho rfl, rfl, n + 1, by simp [Obj.mapSeq]⟩
/-- what the search finds, and what is made of it -/
structure Subst (code text : Array Nat) (repl : List Nat) (subR : Nat → List Nat) (P : Nat → Bool) (endAt : Nat → Nat) (N : Nat) : Prop where
  few : N ≤ 2 ^ 40
  small : text.size ≤ 1048576
  finds : ∀ p, p ≤ text.size → ∃ m', EndsIn N (Sre.forSearch code text 0 p text.size false) m' ∧ ((∃ q, FirstAt P p text.size q ∧ Hits m' q (endAt q)) ∨ (NoneAt P p text.size ∧ Misses m'))
  goes : ∀ q, q < text.size → P q = true → q < endAt q ∧ endAt q ≤ text.size
  at_ : ∀ p q, FirstAt P p text.size q → subR p = (text.extract p q).toList ++ repl ++ subR (endAt q)
  no : ∀ p, p ≤ text.size → NoneAt P p text.size → subR p = (text.extract p text.size).toList
/-- the kind's own ways -/
structure Kinds (kind : Nat) (text : Array Nat) (repl : List Nat) (sv rv : Value) (pv : List Nat → Tok → Value) : Prop where
  two : kind = 0 ∨ kind = 1
  txt : reTextOf sv = pure (text, kind)
  calm : reNoCollectionInside sv kind = pure ()
  calmR : reLiteralCannotBeTurned rv = pure ()
  some : (rv != .none) = true
  rep : ∃ t, rv = pv repl t
  slice : ∀ (M : Model) (A : Around) (E : Value → Shared → Prop) (b e : Nat) (s : Shared) (Q : Value → Shared → Prop), (∀ t k, Q (pv (text.extract b e).toList t) { s with toks := k }) → wpAny M A (reSlice text kind b e) Q E s
def joinId (kind : Nat) : String := if (kind == 0) = true then "str.join" else "bytes.join"
abbrev pieces (pv : List Nat → Tok → Value) (ps : List (List Nat × Tok)) : List Value := ps.map fun p => pv p.1 p.2
abbrev flat (ps : List (List Nat × Tok)) : List Nat := (ps.map (·.1)).flatten
theorem sub_loop {repl : List Nat} {subR : Nat → List Nat} {P : Nat → Bool} {endAt : Nat → Nat} {N : Nat} {pv : List Nat → Tok → Value} {R : Result → Shared → Prop} {l : Addr} (S : Subst code text repl subR P endAt N) (K : Kinds kind text repl sv rv pv)
    (h1 : pt ≠ l) (h2 : ct ≠ l) (total : List Nat) :
    ∀ (k dn : Nat) (n : Int) (s : Shared) (ps : List (List Nat × Tok)), text.size - dn = k → dn ≤ text.size → PatAt s.heap pt ct code kind → s.heap.IsList l (pieces pv ps).toArray → ps.length ≤ 2 * dn → flat ps ++ subR dn = total →
      (∀ (h' : Heap) (k' : Nat) (ps : List (List Nat × Tok)) (t : Tok), (∀ b o, b ≠ l → s.heap.get? b = some o → h'.get? b = some o) → h'.IsList l (pieces pv ps).toArray → ps.length ≤ 2 * text.size + 2 → flat ps = total →
        if (pieces pv ps).toArray.isEmpty = true then R (.ok (.ret (pv [] t))) { s with heap := h', toks := k' } else wpAny (model prog w) A.in1 (call (.builtin (joinId kind)) [pv [] t, .ref l]) (fun v s' => R (.ok (.ret v)) s') (fun e s' => R (.error e) s') { s with heap := h', toks := k' }) →
      codeAny (model prog w) A (.builtin "re.Pattern.sub.loop" ⟨[.ref pt, sv, rv, rawInt 0, rawInt 0, rawInt n, rawInt dn, rawInt dn, .bool false, .ref l, .bool false], []⟩) R s := by
  intro k
  induction k using Nat.strongRecOn with
  | ind k ih =>
  intro dn n s ps hk hle hp hl hlen htot hR
  have hsm := S.small
  obtain ⟨rt, hrt⟩ := K.rep
  refine codeAny_builtin loop_entry ?_
  rw [Around.under_plainId loop_plain _]
  show wpAny _ _ (reWholeTarget (.ref pt) sv >>= fun t => _) _ _ s
  refine wpAny_bind (whole_target hp K.txt K.calm K.two ?_)
  refine bm_if_true (by rfl) ?_
  refine wpAny_bind (wpAny_of_eq K.calmR ?_)
  show wpAny _ _ ((if ((0 : Int) != 0 && decide (n ≥ 0)) = true then pure none else reNextFound _ dn false) >>= fun r => _) _ _ s
  refine wpAny_bind (bm_if_false (by rfl) ?_)
  obtain ⟨m', hm, hr⟩ := S.finds dn hle
  refine run_ends hm S.few ⟨?_, ?_⟩ (by rcases hr with ⟨q, _, h⟩ | ⟨_, h⟩; exact .inl ⟨_, _, h⟩; exact .inr h)
  · intro q0 e0 hh0
    have hr' : ∃ q, FirstAt P dn text.size q ∧ Hits m' q (endAt q) := by
      rcases hr with h | ⟨_, h⟩
      · exact h
      · have := hh0.1; rw [show m'.outcome = _ from h] at this; cases this
    obtain ⟨q, hq, hh⟩ := hr'
    have hgo := S.goes q hq.2.1 hq.2.2.1
    have hst : m'.start = q := hh.2.1
    have hhd : m'.handed = endAt q := hh.2.2
    have hmust : (m'.handed == q) = false := by rw [hhd]; simp; omega
    have hdq : dn ≤ q := hq.1
    have tail : ∀ (h' : Heap) (k' : Nat) (ps' : List (List Nat × Tok)), (∀ b o, b ≠ l → s.heap.get? b = some o → h'.get? b = some o) → h'.IsList l (pieces pv ps').toArray → ps'.length ≤ 2 * dn + 1 → flat ps' = flat ps ++ (text.extract dn q).toList →
        wpAny (model prog w) A.in1 (if (rv != Value.none) = true then (do
            let _ ← updateSeq l fun x => x.push rv
            again (.builtin "re.Pattern.sub.loop" ⟨[.ref pt, sv, rv, rawInt 0, rawInt 0, rawInt (n + 1), rawInt m'.handed, rawInt m'.handed, .bool (m'.handed == q), .ref l, .bool false], []⟩))
          else again (.builtin "re.Pattern.sub.loop" ⟨[.ref pt, sv, rv, rawInt 0, rawInt 0, rawInt (n + 1), rawInt m'.handed, rawInt m'.handed, .bool (m'.handed == q), .ref l, .bool false], []⟩))
          (fun fin s' => match fin with | .done f => R (.ok f) s' | .again c' => c'.quiet = true ∧ codeAny (model prog w) A c' R s') (fun e s' => R (.error e) s') { s with heap := h', toks := k' } := by
      intro h' k' ps' hk' hl' hlen' hfl
      refine bm_if_true K.some ?_
      refine wpAny_bind (push_list hl' (by simp; omega) fun h'' hl'' hk'' => ?_)
      rw [hmust, hhd]
      refine wpAny_pure ⟨plainId_quiet loop_plain _, ?_⟩
      refine ih (text.size - endAt q) (by omega) (endAt q) (n + 1) { s with heap := h'', toks := k' } (ps' ++ [(repl, rt)]) rfl hgo.2 (hp.keeps (fun b o hb e => hk'' b o hb (hk' b o hb e)) h1 h2) ?_ ?_ ?_ ?_
      · rw [hrt] at hl''; simpa [pieces] using hl''
      · simp; omega
      · rw [← htot, S.at_ dn q hq]
        simp only [flat, List.map_append, List.flatten_append] at hfl ⊢
        rw [hfl]; simp
      · intro h3 k3 ps3 t3 hk3 hl3 hlen3 hf3
        exact hR h3 k3 ps3 t3 (fun b o hb e => hk3 b o hb (hk'' b o hb (hk' b o hb e))) hl3 hlen3 hf3
    show wpAny _ _ (if dn < m'.start then _ else _) _ _ s
    rw [hst]
    by_cases hdq' : dn < q
    · rw [if_pos hdq']
      refine wpAny_bind (K.slice _ _ _ dn q s _ fun t k' => ?_)
      refine wpAny_bind (push_list (s := { s with toks := k' }) hl (by simp; omega) fun h'' hl'' hk'' => ?_)
      refine bm_if_true (by rfl) ?_
      refine wpAny_bind (wpAny_pure ?_)
      exact tail h'' k' (ps ++ [((text.extract dn q).toList, t)]) hk'' (by simpa [pieces] using hl'') (by simp; omega) (by simp [flat])
    · rw [if_neg hdq']
      refine bm_if_true (by rfl) ?_
      refine wpAny_bind (wpAny_pure ?_)
      have hqd : q = dn := by omega
      exact tail s.heap s.toks ps (fun _ _ _ e => e) hl (by omega) (by rw [hqd]; simp)
  · intro hmiss
    have hno : NoneAt P dn text.size := by
      rcases hr with ⟨q, _, h⟩ | ⟨h, _⟩
      · have := h.1; rw [show m'.outcome = _ from hmiss] at this; cases this
      · exact h
    have tail : ∀ (h' : Heap) (k' : Nat) (ps' : List (List Nat × Tok)), (∀ b o, b ≠ l → s.heap.get? b = some o → h'.get? b = some o) → h'.IsList l (pieces pv ps').toArray → ps'.length ≤ 2 * dn + 1 → flat ps' = total →
        wpAny (model prog w) A.in1 (do
              let joiner ← reSlice text kind 0 0
              let items ← seqItems? (.ref l)
              if (items.getD #[]).isEmpty = true then do
                  let text ← pure joiner
                  ret text
                else do
                  let text ← call (Value.builtin (if (kind == 0) = true then "str.join" else "bytes.join")) [joiner, .ref l]
                  ret text)
          (fun fin s' => match fin with | .done f => R (.ok f) s' | .again c' => c'.quiet = true ∧ codeAny (model prog w) A c' R s') (fun e s' => R (.error e) s') { s with heap := h', toks := k' } := by
      intro h' k' ps' hk' hl' hlen' hfl
      refine wpAny_bind (K.slice _ _ _ 0 0 _ _ fun t k2 => ?_)
      have := hR h' k2 ps' t hk' hl' (by omega) hfl
      obtain ⟨o, ho, hc, n', hd⟩ := id hl'
      rw [show (text.extract 0 0).toList = [] by simp]
      refine wpAny_bind ?_
      unfold seqItems?
      refine wpAny_bind (wpAny_load ho ?_)
      rw [hd]
      refine wpAny_pure ?_
      rw [Option.getD_some]
      by_cases hem : (pieces pv ps').toArray.isEmpty = true
      · rw [if_pos hem] at this ⊢
        exact wpAny_bind (wpAny_pure (wpAny_pure this))
      · rw [if_neg hem] at this ⊢
        exact wpAny_bind (wpAny_mono this (fun v s' hv => wpAny_pure hv) fun _ _ e => e)
    show wpAny _ _ (if dn < text.size then _ else _) _ _ s
    by_cases hdq' : dn < text.size
    · rw [if_pos hdq']
      refine wpAny_bind (K.slice _ _ _ dn text.size s _ fun t k' => ?_)
      refine wpAny_bind (push_list (s := { s with toks := k' }) hl (by simp; omega) fun h'' hl'' hk'' => ?_)
      exact tail h'' k' (ps ++ [((text.extract dn text.size).toList, t)]) hk'' (by simpa [pieces] using hl'') (by simp; omega) (by rw [← htot, S.no dn hle hno]; simp [flat])
    · rw [if_neg hdq']
      have hqd : dn = text.size := by omega
      exact tail s.heap s.toks ps (fun _ _ _ e => e) hl (by omega) (by rw [← htot, S.no dn hle hno, hqd]; simp)
end
end PartSre2
section PartSre3
open PySem PySem.W PyProof.Rows
set_option maxRecDepth 100000
set_option maxHeartbeats 1000000
open PySem.Builtin PySem.Calls PySem.Builtin.Re
theorem rp_plain : PlainAttrs "re.Pattern" :=
  ⟨⟨"object.__getattribute__", by rw [typeLookup_type, builtinLookup_eq_fast]; kernel_rfl, by decide +kernel⟩, by rw [typeLookup_type, builtinLookup_eq_fast]; kernel_rfl⟩
theorem rp_slot : Slot "re.Pattern" "sub" "re.Pattern.sub" :=
  .of (owner := "re.Pattern") (n := "sub") (by rw [typeLookup_type, builtinLookup_eq_fast]; kernel_rfl) (by decide +kernel) (by decide +kernel) (by decide +kernel)
    (by first | exact .inl (by decide +kernel) | exact .inr (by decide +kernel)) (by rw [isSubtype_type]; kernel_rfl)
theorem rp_type : typeOf (.builtin "re.Pattern.sub") = pure (.type "method_descriptor") := by show builtinType _ = _; rw [builtinType_eq_fast]; kernel_rfl
theorem rp_entry : entryFor table "re.Pattern.sub" = some Builtin.«re.Pattern.sub» := entryFor_of_tree (by kernel_rfl)
theorem rp_args (a b c : Value) : argsOk "re.Pattern.sub" ⟨[a, b, c], []⟩ := by unfold argsOk; kernel_rfl
theorem rp_named (a b : Value) : reNamed "re.Pattern.sub" "sub" ["repl", "string", "count"] 2 [a, b] [] = pure [some a, some b, none] := by kernel_rfl
theorem nocall_str : typeLookup (.type "str") "__call__" = pure none := by rw [typeLookup_type, builtinLookup_eq_fast]; kernel_rfl
theorem nocall_bytes : typeLookup (.type "bytes") "__call__" = pure none := by rw [typeLookup_type, builtinLookup_eq_fast]; kernel_rfl
section
variable {prog : Program} {w : World} {M : Model} {A : Around} {E : Value → Shared → Prop} {s : Shared} {pt ct : Addr} {code text : Array Nat} {kind : Nat} {sv rv : Value}
theorem meth_sub {o : Obj} {pl : Sem Bool} {Q : Value × List Value → Shared → Prop} (ho : s.heap.get? pt = some o) (hc : o.cls = .type "re.Pattern") (hd : o.dict = none) (h : Q (.builtin "re.Pattern.sub", [.ref pt]) s) :
    wpAny M A (getMethod (.ref pt) "sub" pl) Q E s := by
  have hT : s.TypeIs (.ref pt) "re.Pattern" := ⟨o, ho, hc⟩
  have hd' : ∀ a, Value.ref pt = .ref a → ∃ o, s.heap.get? a = some o ∧ o.dict = none := fun a e => by cases e; exact ⟨o, ho, hd⟩
  with_reducible exact getMethod_builtin hT rp_plain rp_slot rp_type hd' h
theorem call_sub {o : Obj} {T : String} {repl : List Nat} {subR : Nat → List Nat} {P : Nat → Bool} {endAt : Nat → Nat} {N : Nat} {pv : List Nat → Tok → Value} {Q : Value → Shared → Prop} (ho : s.heap.get? pt = some o) (hc : o.cls = .type "re.Pattern")
    (S : Subst code text repl subR P endAt N) (K : Kinds kind text repl sv rv pv) (hp : PatAt s.heap pt ct code kind) (hT : s.TypeIs rv T) (hnc : typeLookup (.type T) "__call__" = pure none)
    (hlit : (∃ r, asStr? rv = pure (some r) ∧ (!r.cps.contains 92) = true) ∨ (asStr? rv = pure none ∧ ∃ b, Bytes.bufferQuiet? "re.Pattern.sub" rv = pure (some b) ∧ (!b.contains 92) = true))
    (hj : ∀ (h' : Heap) (k' : Nat) (ps : List (List Nat × Tok)) (t : Tok) (l : Addr), (∀ b o, s.heap.get? b = some o → h'.get? b = some o) → h'.IsList l (pieces pv ps).toArray → ps.length ≤ 2 * text.size + 2 → flat ps = subR 0 →
        if (pieces pv ps).toArray.isEmpty = true then Q (pv [] t) { s with heap := h', toks := k' } else wpAny (model prog w) A.in1 (call (.builtin (joinId kind)) [pv [] t, .ref l]) Q E { s with heap := h', toks := k' }) :
    wpAny (model prog w) A (call (.builtin "re.Pattern.sub") [.ref pt, rv, sv]) Q E s := by
  refine wpAny_call (codeAny_call_builtin rp_slot.plain rp_entry (rp_slot.check _ _ _ _ _ _ _ _ ⟨o, ho, hc⟩ (rp_args _ _ _) ?_))
  unfold Builtin.«re.Pattern.sub» reSubstitute
  dsimp only
  rw [rp_named]
  simp only [pure_bind]
  refine wpAny_bind (wpAny_specialOf hT hnc ?_)
  simp only [Option.isSome_none, Bool.false_eq_true, if_false]
  have rest : ∀ (X : Sem Fin), wpAny (model prog w) A.in1 (do
            let _ ← holding [rv] (reWholeTarget (Value.ref pt) sv)
            if ((0 : Int) == 1) = true then X
              else do
                let l ← newList []
                again (Code.builtin "re.Pattern.sub.loop" ⟨[Value.ref pt, sv, rv, rawInt 0, rawInt 0, rawInt 0, rawInt 0, rawInt 0, Value.bool false, l, Value.bool false], []⟩))
        (fun fin s' => match fin with | .done f => (wants Q E) (.ok f) s' | .again c' => c'.quiet = true ∧ codeAny (model prog w) A c' (wants Q E) s') (fun e s' => (wants Q E) (.error e) s') s := by
    intro X
    refine wpAny_bind (wpAny_holding (whole_target hp K.txt K.calm K.two ?_))
    refine bm_if_false (by rfl) ?_
    refine wpAny_bind ?_
    unfold newList
    refine wpAny_newObj_type ?_ (Nat.zero_le _)
    refine wpAny_pure ⟨plainId_quiet loop_plain _, ?_⟩
    obtain ⟨po, fs, co, items, n, a1, a2, a3, a4, a5, a6, a7, a8⟩ := hp.ex
    have hk : ∀ b o, s.heap.get? b = some o → (s.heap.push { cls := .type "list", data := .seq ([] : List Value).toArray }).get? b = some o := fun b o e => Heap.get?_push_of_some _ e
    refine sub_loop (s := { s with heap := s.heap.push { cls := .type "list", data := .seq ([] : List Value).toArray } }) (n := 0) (dn := 0) (ps := []) (ct := ct) (l := s.heap.objs.size) S K (Nat.ne_of_lt (Heap.lt_size a1)) (Nat.ne_of_lt (Heap.lt_size a6)) (subR 0) (text.size - 0) rfl (Nat.zero_le _)
      ⟨⟨po, fs, co, items, n, hk _ _ a1, a2, a3, a4, a5, hk _ _ a6, a7, a8⟩⟩ ⟨_, Heap.get?_push_size _ rfl, rfl, _, rfl⟩ (Nat.zero_le _) (by simp) ?_
    intro h' k' ps t hk' hl' hlen hfl
    exact hj h' k' ps t _ (fun b o e => hk' b o (Nat.ne_of_lt (Heap.lt_size e)) (hk b o e)) hl' hlen hfl
  rcases hlit with ⟨r, e1, e2⟩ | ⟨e1, b, e2, e3⟩
  · rw [e1]
    simp only [pure_bind, e2, if_true]
    exact rest _
  · rw [e1]
    simp only [pure_bind, e2, e3, if_true]
    exact rest _
def strPv (x : List Nat) (t : Tok) : Value := .str ⟨x.toArray⟩ t
theorem kinds_str {x r : Str} {t u : Tok} (hsz : x.length ≤ 16777216) : Kinds 0 x.cps r.cps.toList (.str x t) (.str r u) strPv where
  two := .inl rfl
  txt := by unfold reTextOf; rfl
  calm := rfl
  calmR := rfl
  some := rfl
  rep := ⟨u, rfl⟩
  slice := fun M A E b e s Q h => by
    show wpAny M A (mkStr ⟨x.cps.extract b e⟩) Q E s
    refine wpAny_mkStr (h _ _) ?_
    show (x.cps.extract b e).size ≤ _
    rw [Array.size_extract, sizeLine_eq]
    have : x.cps.size ≤ 16777216 := hsz
    omega
theorem glued_nil (ps : List (List Nat × Tok)) : Txt.join ⟨([] : List Nat).toArray⟩ (ps.map fun p => (⟨p.1.toArray⟩ : Str)) = ⟨(flat ps).toArray⟩ := by
  have key : ∀ (l : List (List Nat × Tok)) (acc : Array Nat), (l.map fun p => (⟨p.1.toArray⟩ : Str)).foldl (fun acc p => acc ++ (⟨([] : List Nat).toArray⟩ : Str).cps ++ p.cps) acc = acc ++ (flat l).toArray := by
    intro l
    induction l with
    | nil => intro acc; simp
    | cons a r ih => intro acc; rw [List.map_cons, List.foldl_cons, ih]; simp [flat]
  unfold Txt.join Builtin.Str.glued
  cases ps with
  | nil => rfl
  | cons a r =>
    have := key r a.1.toArray
    simp only [List.map_cons, List.drop_succ_cons, List.drop_zero, List.headD_cons]
    rw [this]; simp [flat]
theorem flat_len (ps : List (List Nat × Tok)) : ∀ k : Nat, ((ps.map fun p => (⟨p.1.toArray⟩ : Str)).foldl (fun (a : Nat) p => a + p.length + 0) k) = k + (flat ps).length := by
  induction ps with
  | nil => intro k; simp
  | cons a r ih => intro k; rw [List.map_cons, List.foldl_cons, ih]; simp [Str.length]; omega
theorem call_sub_str {o : Obj} {x r : Str} {t u : Tok} {subR : Nat → List Nat} {P : Nat → Bool} {endAt : Nat → Nat} {N : Nat} {Q : Value → Shared → Prop} (ho : s.heap.get? pt = some o) (hc : o.cls = .type "re.Pattern")
    (S : Subst code x.cps r.cps.toList subR P endAt N) (hp : PatAt s.heap pt ct code 0) (hr : (!r.cps.contains 92) = true) (hlen : (subR 0).length ≤ 16777216)
    (hq : ∀ (h' : Heap) (k' : Nat) (t' : Tok), (∀ b o, s.heap.get? b = some o → h'.get? b = some o) → Q (.str ⟨(subR 0).toArray⟩ t') { s with heap := h', toks := k' }) :
    wpAny (model prog w) A (call (.builtin "re.Pattern.sub") [.ref pt, .str r u, .str x t]) Q E s := by
  have hsm : x.length ≤ 1048576 := S.small
  refine call_sub (T := "str") ho hc S (kinds_str (by omega)) hp (typeIs_str _ _ _) nocall_str (.inl ⟨r, rfl, hr⟩) ?_
  intro h' k' ps t l hk hl hps hfl
  by_cases hem : (pieces strPv ps).toArray.isEmpty = true
  · rw [if_pos hem]
    have : ps = [] := by simpa [pieces] using hem
    subst this
    have := hq h' k' t hk
    rw [← hfl] at this
    exact this
  · rw [if_neg hem]
    show wpAny (model prog w) A.in1 (call (.builtin "str.join") [.str ⟨([] : List Nat).toArray⟩ t, .ref l]) Q E _
    have e : (pieces strPv ps) = strValues (ps.map fun p => ((⟨p.1.toArray⟩ : Str), p.2)) := by
      simp [pieces, strValues, strPv]
    rw [e] at hl
    refine SC.join (texts := ps.map fun p => (⟨p.1.toArray⟩ : Str)) (s := { s with heap := h', toks := k' }) hl (by simp) ?_ fun t' k2 => ?_
    · unfold JoinOk Builtin.Str.tooLong
      have e2 := flat_len ps 0
      rw [Nat.zero_add, hfl] at e2
      simp only [List.size_toArray, List.length_map, List.foldl_toArray']
      rw [Bool.not_eq_true', decide_eq_false_iff_not, sizeLine_eq]
      refine Nat.not_lt.mpr (Nat.le_trans (Nat.le_of_eq ?_) hlen)
      exact e2
    · rw [glued_nil, hfl]
      exact hq h' k2 t' hk
end
end PartSre3
section PartSre4
open PySem PySem.W PyProof.Rows
set_option maxRecDepth 100000
set_option maxHeartbeats 1000000
open PySem.Builtin PySem.Calls PySem.Builtin.Re
def octs (x : List Nat) : Array UInt8 := (x.map (·.toUInt8)).toArray
def bytesPv (x : List Nat) (t : Tok) : Value := .bytes (octs x) t
theorem takeQ {id : String} {b : Array UInt8} {t : Tok} : Bytes.takeBufferQuiet? id (.bytes b t) 0 = pure (some (b, none)) := by
  have e : Bytes.takeBuffer? id (.bytes b t) 0 = pure (some (b, none)) := by
    unfold Bytes.takeBuffer?
    simp only [KBy.special_eq KBy.look_buffer, KBy.own_buffer, pure_bind]
    rw [show (0 == Bytes.fullReadOnly) = false from by decide]
    rw [KBy.buffer_eq]
    rfl
  unfold Bytes.takeBufferQuiet?
  rw [e]; rfl
theorem bj_slot : Slot "bytes" "join" "bytes.join" :=
  .of (owner := "bytes") (n := "join") (by rw [typeLookup_type, builtinLookup_eq_fast]; kernel_rfl) (by decide +kernel) (by decide +kernel) (by decide +kernel)
    (by first | exact .inl (by decide +kernel) | exact .inr (by decide +kernel)) (by rw [isSubtype_type]; kernel_rfl)
theorem bj_entry : entryFor table "bytes.join" = some Builtin.«bytes.join» := entryFor_of_tree (by kernel_rfl)
theorem bj_args (a b : Value) : argsOk "bytes.join" ⟨[a, b], []⟩ := by unfold argsOk; kernel_rfl
theorem joined_nil (ps : List (Array UInt8)) : Bytes.joined #[] ps = (ps.map (·.toList)).flatten.toArray := by
  have key : ∀ (l : List (Array UInt8)) (k : Nat) (acc : Array UInt8), (l.zipIdx k).foldl (fun out (p, i) => (if i > 0 then out ++ #[] else out) ++ p) acc = acc ++ (l.map (·.toList)).flatten.toArray := by
    intro l
    induction l with
    | nil => intro k acc; simp
    | cons a r ih =>
      intro k acc
      rw [List.zipIdx_cons, List.foldl_cons, ih]
      obtain ⟨a⟩ := a
      simp
  unfold Bytes.joined
  rw [key]; simp
section
variable {prog : Program} {w : World} {M : Model} {A : Around} {E : Value → Shared → Prop} {s : Shared}
theorem wp_forIn {σ : Type} {f : Nat → σ → Sem (ForInStep σ)} (st : Nat → σ) (N : Nat) {Q : σ → Shared → Prop} (hstep : ∀ i, i < N → ∀ {Q : ForInStep σ → Shared → Prop}, Q (.yield (st (i + 1))) s → wpAny M A (f i (st i)) Q E s) :
    ∀ (k i : Nat), i + k = N → Q (st N) s → wpAny M A (forIn (List.range' i k 1) (st i) f) Q E s := by
  intro k
  induction k with
  | zero => intro i h hq; simp at h; subst h; exact wpAny_pure hq
  | succ k ih =>
    intro i h hq
    rw [List.range'_succ, List.forIn_cons]
    exact wpAny_bind (hstep i (by omega) (ih (i + 1) (by omega) hq))
theorem letGo_all : ∀ (l : List (Value × Option Value)) (keep : List Value) {Q : Unit → Shared → Prop}, (∀ p ∈ l, p.2 = none) → Q () s → wpAny M A (Bytes.joinLetGo l keep) Q E s
  | [], _, _, _, h => wpAny_pure h
  | (x, u) :: r, keep, Q, hn, h => by
    have : u = none := hn (x, u) (.head _)
    subst this
    unfold Bytes.joinLetGo
    exact wpAny_bind (wpAny_letGo (letGo_all r keep (fun p hp => hn p (.tail _ hp)) h))
theorem one_match (ps : List (List Nat × Tok)) (F : Value → Sem Fin) (G : Array Value → Sem Fin) (h : ps.length ≠ 1) : Bytes.joinM.match_1 (fun _ => Sem Fin) (pieces bytesPv ps).toArray F G = G (pieces bytesPv ps).toArray := by
  rcases ps with _ | ⟨p, _ | ⟨q, r⟩⟩
  · rfl
  · exact absurd rfl h
  · rfl
theorem one_match1 (v : Value) (F : Value → Sem Fin) (G : Array Value → Sem Fin) : Bytes.joinM.match_1 (fun _ => Sem Fin) #[v] F G = F v := rfl
theorem call_bjoin {l : Addr} {ps : List (List Nat × Tok)} {t : Tok} {Q : Value → Shared → Prop} (hl : s.heap.IsList l (pieces bytesPv ps).toArray) (hlen : (flat ps).length ≤ 16777216)
    (hq : ∀ t' k, Q (.bytes (octs (flat ps)) t') { s with toks := k }) : wpAny (model prog w) A (call (.builtin "bytes.join") [bytesPv [] t, .ref l]) Q E s := by
  refine call_meets bj_slot (typeIs_bytes _ _ _) bj_entry (bj_args _ _)
    (S := fun _ R s => s.heap.IsList l (pieces bytesPv ps).toArray ∧ ∀ t' k, R (.ok (.ret (.bytes (octs (flat ps)) t'))) { s with toks := k }) ?_ ⟨hl, hq⟩
  refine .of_wp fun prog w A R s hS => ?_
  obtain ⟨hl, hS⟩ := hS
  obtain ⟨o, ho, hc, n, hd⟩ := id hl
  have hT : s.TypeIs (.ref l) "list" := ⟨o, ho, hc⟩
  have hitems : ∀ {A : Around} {E : Value → Shared → Prop} {Q : Option (Array Value) → Shared → Prop}, Q (some (pieces bytesPv ps).toArray) s → wpAny (model prog w) A (seqItems? (.ref l)) Q E s := fun hq => by
    unfold seqItems?
    refine wpAny_bind (wpAny_load ho ?_)
    rw [hd]
    exact wpAny_pure hq
  unfold Builtin.«bytes.join» Bytes.joinM
  refine wpAny_bind (wpAny_of_eq (a := (bytesPv [] t, Value.ref l)) rfl ?_)
  refine bm_if_true (by rfl) ?_
  unfold Bytes.joinItems
  refine wpAny_bind (wpAny_bind (wpAny_typeOf hT (bm_if_true (by decide) (wpAny_pure ?_))))
  refine wpAny_bind (hitems ?_)
  refine bm_if_true (by rfl) ?_
  by_cases h1 : ps.length = 1
  · obtain ⟨p, rfl⟩ : ∃ p, ps = [p] := by
      match ps, h1 with
      | [p], _ => exact ⟨p, rfl⟩
    rw [show (pieces bytesPv [p]).toArray = #[bytesPv p.1 p.2] from rfl, one_match1]
    refine wpAny_bind (wpAny_typeOf (typeIs_bytes _ _ _) (bm_if_true (by decide) (wpAny_bind (wpAny_rule (wpAny_pure ⟨_, rfl, ?_⟩)))))
    have := hS p.2 s.toks
    simpa [flat, bytesPv] using this
  · rw [one_match ps _ _ h1]
    simp only [Std.Legacy.Range.forIn_eq_forIn_range']
    have e0 : ((#[], []) : Array (Array UInt8) × List (Value × Option Value)) = (fun i => (((ps.take i).map fun p => octs p.1).toArray, (ps.take i).map fun p => (bytesPv p.1 p.2, none))) 0 := by simp
    rw [e0]
    refine wpAny_bind ?_
    rw [show Std.Legacy.Range.size [:(pieces bytesPv ps).toArray.size] = ps.length by simp [Std.Legacy.Range.size]]
    refine wp_forIn (fun i => (((ps.take i).map fun p => octs p.1).toArray, (ps.take i).map fun p => (bytesPv p.1 p.2, none))) ps.length ?_ ps.length 0 (by simp) ?_
    · intro i hi Q hQ
      have hget : (pieces bytesPv ps).toArray.getD i Value.none = bytesPv (ps[i]).1 (ps[i]).2 := by
        simp [pieces, Array.getD_eq_getD_getElem?, hi]
      have hheap : ((List.map (fun p : List Nat × Tok => (bytesPv p.1 p.2, (none : Option Value))) (ps.take i)).any fun x => x.1.onHeap) = false := by
        rw [List.any_map]; simp [bytesPv, Value.onHeap]
      refine wpAny_bind (hitems ?_)
      dsimp only
      rw [hget]
      refine bm_if_false (by rw [hheap]; rfl) ?_
      refine wpAny_bind (wpAny_holding (wpAny_of_eq takeQ ?_))
      refine wpAny_bind (hitems ?_)
      refine bm_if_false (by simp) ?_
      refine wpAny_pure ?_
      have e1 : (List.map (fun p : List Nat × Tok => octs p.1) (ps.take (i + 1))).toArray = (List.map (fun p : List Nat × Tok => octs p.1) (ps.take i)).toArray.push (octs ps[i].1) := by
        rw [List.take_succ_eq_append_getElem hi, List.map_append, List.push_toArray]; rfl
      have e2 : List.map (fun p : List Nat × Tok => (bytesPv p.1 p.2, (none : Option Value))) (ps.take (i + 1)) = List.map (fun p : List Nat × Tok => (bytesPv p.1 p.2, (none : Option Value))) (ps.take i) ++ [(bytesPv ps[i].1 ps[i].2, none)] := by
        rw [List.take_succ_eq_append_getElem hi, List.map_append]; rfl
      simp only [e1, e2] at hQ
      exact hQ
    · refine wpAny_bind (wpAny_of_eq (a := #[]) rfl ?_)
      have hlenp : Array.foldl (fun (a : Nat) (x : Array UInt8) => a + x.size) ((#[] : Array UInt8).size * ((List.map (fun p : List Nat × Tok => octs p.1) (ps.take ps.length)).toArray.size - 1)) (List.map (fun p : List Nat × Tok => octs p.1) (ps.take ps.length)).toArray = (flat ps).length := by
        have key : ∀ (l : List (List Nat × Tok)) (k : Nat), (List.map (fun p : List Nat × Tok => octs p.1) l).foldl (fun (a : Nat) (x : Array UInt8) => a + x.size) k = k + (flat l).length := by
          intro l
          induction l with
          | nil => intro k; simp
          | cons a r ih => intro k; rw [List.map_cons, List.foldl_cons, ih]; simp [octs, flat]; omega
        rw [List.take_length, List.foldl_toArray' _ _ _ rfl, key]; simp
      have hjoin : Bytes.joined #[] (List.map (fun p : List Nat × Tok => octs p.1) (ps.take ps.length)).toArray.toList = octs (flat ps) := by
        rw [List.take_length, joined_nil]
        simp [octs, flat, List.map_flatten, Function.comp_def]
      dsimp only
      rw [hlenp, hjoin]
      refine bm_if_false (by unfold Bytes.tooLong; rw [sizeLine_eq]; simpa using hlen) ?_
      refine wpAny_bind (wpAny_mkBytes ?_ (by rw [sizeLine_eq]; unfold octs; rw [List.size_toArray, List.length_map]; exact hlen))
      refine wpAny_bind (wpAny_holding (wpAny_point ?_))
      refine wpAny_bind (letGo_all _ _ (by intro p hp; obtain ⟨q, _, rfl⟩ := List.mem_map.mp hp; rfl) ?_)
      exact wpAny_pure ⟨_, rfl, hS _ _⟩
theorem buf_calm {b : Array UInt8} {t : Tok} : reNoCollectionInside (.bytes b t) 1 = pure () := by
  unfold reNoCollectionInside
  rw [KBy.isInstance_eq]; rfl
theorem buf_calmR {b : Array UInt8} {t : Tok} : reLiteralCannotBeTurned (.bytes b t) = pure () := by
  unfold reLiteralCannotBeTurned
  rw [KBy.isInstance_eq]; rfl
theorem buf_text {b : Array UInt8} {t : Tok} : reTextOf (.bytes b t) = pure (b.map (·.toNat), 1) := by
  unfold reTextOf
  simp only [KBy.quiet_eq, pure_bind]
  rfl
theorem kinds_bytes {b r : Array UInt8} {t u : Tok} (hsz : b.size ≤ 16777216) : Kinds 1 (b.map (·.toNat)) (r.map (·.toNat)).toList (.bytes b t) (.bytes r u) bytesPv where
  two := .inr rfl
  txt := buf_text
  calm := buf_calm
  calmR := buf_calmR
  some := rfl
  rep := ⟨u, by
    unfold bytesPv octs
    congr 1
    simp [Function.comp_def]⟩
  slice := fun M A E x y s Q h => by
    show wpAny M A (mkBytes (((b.map (·.toNat)).extract x y).map (·.toUInt8))) Q E s
    have e : ((b.map (·.toNat)).extract x y).map (·.toUInt8) = octs ((b.map (·.toNat)).extract x y).toList := by
      unfold octs; rw [← List.map_toArray]; 
    rw [e]
    refine wpAny_mkBytes (h _ _) ?_
    rw [sizeLine_eq]; simp [octs]; omega
theorem call_sub_bytes {pt ct : Addr} {code : Array Nat} {o : Obj} {x r : Array UInt8} {t u : Tok} {subR : Nat → List Nat} {P : Nat → Bool} {endAt : Nat → Nat} {N : Nat} {Q : Value → Shared → Prop} (ho : s.heap.get? pt = some o) (hc : o.cls = .type "re.Pattern")
    (S : Subst code (x.map (·.toNat)) (r.map (·.toNat)).toList subR P endAt N) (hp : PatAt s.heap pt ct code 1) (hr : (!r.contains 92) = true) (hlen : (subR 0).length ≤ 16777216)
    (hq : ∀ (h' : Heap) (k' : Nat) (t' : Tok), (∀ b o, s.heap.get? b = some o → h'.get? b = some o) → Q (.bytes (octs (subR 0)) t') { s with heap := h', toks := k' }) :
    wpAny (model prog w) A (call (.builtin "re.Pattern.sub") [.ref pt, .bytes r u, .bytes x t]) Q E s := by
  have hsm : (x.map (·.toNat)).size ≤ 1048576 := S.small
  rw [Array.size_map] at hsm
  refine call_sub (T := "bytes") ho hc S (kinds_bytes (by omega)) hp (typeIs_bytes _ _ _) nocall_bytes (.inr ⟨rfl, r, KBy.quiet_eq, hr⟩) ?_
  intro h' k' ps t l hk hl hps hfl
  by_cases hem : (pieces bytesPv ps).toArray.isEmpty = true
  · rw [if_pos hem]
    have : ps = [] := by simpa [pieces] using hem
    subst this
    have := hq h' k' t hk
    rw [← hfl] at this
    exact this
  · rw [if_neg hem]
    refine call_bjoin (s := { s with heap := h', toks := k' }) hl (by rw [hfl]; exact hlen) fun t' k2 => ?_
    rw [hfl]
    exact hq h' k2 t' hk
end
end PartSre4
section PartBase2
open PySem PySem.W PyProof.Rows
set_option maxRecDepth 100000
set_option maxHeartbeats 8000000
open PySem.Calls
abbrev ctx (dp un : Nat) (gd : Option (List Code)) (fr : List Env) : Around := { handled := none, depth := dp, frames := some fr, guards := gd, units := un }
abbrev Grow (h h' : Heap) : Prop := ∀ b o, h.get? b = some o → h'.get? b = some o
abbrev TopAt (mean : ExcName → Option Value) (mg mb : Str → Option Value) (h : Heap) : Prop :=
  Top hd.view_39 (looseW hd.view_39 [Str.ofString "_twin_re_1", Str.ofString "_twin_re_2", Str.ofString "_twin_re_3", Str.ofString "bytes_types", Str.ofString "a2b_base64", Str.ofString "b2a_base64", Str.ofString "b64encode", Str.ofString "b64decode"]) mean mg mb h
/-- a call of a def of the text, from whatever frame: it ends; what it gives back and leaves is told by R -/
def Says (w : World) (mean : ExcName → Option Value) (mg mb : Str → Option Value) (k : Nat) (t : Sem Value) (P : Heap → Prop) (R : Heap → Value → Heap → Prop) : Prop :=
  ∀ (dp un : Nat) (gd : Option (List Code)) (fr : List Env) (base hh : Heap) (gs : Array GenState) (dr : Drawn) (tk : Nat) (os : OsState) (Q E : Value → Shared → Prop),
    Below (ctx dp un gd fr) base fr hh → (hd.heap_39 w.params).In hh → TopAt mean mg mb hh → dp + k < recursionLimit → un + 8 * k < cLine → P hh →
    (∀ (v : Value) (h' : Heap) (tk' : Nat), Grow hh h' → R hh v h' → Q v ⟨h', gs, dr, tk', os⟩) →
    wpAny (model Challenge.rw_pa0025_01.row.prog w) (ctx dp un gd fr) t Q E ⟨hh, gs, dr, tk, os⟩
section
variable {w : World} {mean : ExcName → Option Value} {mg mb : Str → Option Value} {t : Sem Value} {k : Nat} {P : Heap → Prop} {R : Heap → Value → Heap → Prop}
theorem Says.use {dp un : Nat} {gd : Option (List Code)} {env : Env} {outer : List Env} {A₀ : Around} {base h₀ : Heap} {L : Addr} {m : Str → Option Value} {news : List (Addr × Obj)} {s : Shared} {Q E : Value → Shared → Prop}
    (C : Says w mean mg mb k t P R) (B : Below A₀ base outer h₀) (F : Fr h₀ L s.heap m) (X : (hd.heap_39 w.params).In h₀) (N : News h₀ L s.heap news) (T : TopAt mean mg mb h₀)
    (hf : env.frame = some L) (hke : env.scope.kind = .function) (hdp : dp + k < recursionLimit) (hun : un + 8 * k < cLine) (hP : P s.heap)
    (ret : ∀ (v : Value) (h' : Heap) (tk' : Nat), Fr h₀ L h' m → News h₀ L h' news → Grow s.heap h' → R s.heap v h' → Q v { s with heap := h', toks := tk' }) :
    wpAny (model Challenge.rw_pa0025_01.row.prog w) (ctx dp un gd (env :: outer)) t Q E s := by
  have B1 := pushX B F hf hke
  exact C dp un gd (env :: outer) base s.heap _ _ _ _ Q E ⟨rfl, B1.stays, B1.frames⟩ (X.keeps F.keep) (T.keeps F.keep) hdp hun hP (fun v h' tk' g r => ret v h' tk' (F.keeps g) (N.grown g) g r)
end
section
variable {prog : Program} {w : World} {A : Around} {hh : Heap} {gs : Array GenState} {dr : Drawn} {tk : Nat} {os : OsState} {K : Frag} {p : Program} {loose : List Str} {mean : ExcName → Option Value} {mg mb : Str → Option Value}
  {R : Result → Shared → Prop} {name qual : Str} {params : Arguments} {body : List Stmt} {scope : Scope} {dV kV doc pm cdv ct oc : Value} {an od : Option Addr} {osl : Array (Option Value)} {f : Addr} {args : Args} {binds : List (Str × Value)}
theorem enter0 (X : K.In hh) (T : Top p loose mean mg mb hh)
    (ho : K.lookup f = some ⟨oc, od, .func (fnOf name qual params body scope dV kV doc pm an cdv ct), osl⟩) (hcd : codeIn K cdv qual = true) (hroom : A.depth < recursionLimit)
    (hbind : BindsTo ⟨hh, gs, dr, tk, os⟩ (fnOf name qual params body scope dV kV doc pm an cdv ct) args binds) (hloc : ∀ y ∈ binds, scope.names.lookup y.1 = some .local)
    (h : ∀ L' h₁, Fr hh L' h₁ (fun y => binds.reverse.lookup y) → News hh L' h₁ [] →
      wpAny (model prog w) (A.deeper (envOf qual scope L' f cdv)) (execs body (envOf qual scope L' f cdv))
        (fun fl s' => R (.ok (.ret (match fl with | .ret v => v | _ => .none))) s')
        (fun e s' => wpAny (model prog w) (A.deeper (envOf qual scope L' f cdv)) (leaving (envOf qual scope L' f cdv) e) (fun _ s'' => R (.error e) s'') (fun e' s'' => R (.error e') s'') s')
        ⟨h₁, gs, dr, tk + binds.length, os⟩)
    (hco : scope.isCoroutine = false) (hgen : scope.isGenerator = false) (hk : scope.kind = .function)
    (hcell : ∀ x ∈ scope.names, x.2 ≠ .cell) : codeAny (model prog w) A (.call (.ref f) args) R ⟨hh, gs, dr, tk, os⟩ := by
  refine codeAny_call_def (fd := fnOf name qual params body scope dV kV doc pm an cdv ct) (body := body) (binds := binds) hroom (X _ _ ho) rfl T.nolimit (codeRec_of X hcd) rfl hbind hcell hloc (fun h₁ hns hk₁ => ?_) hco hgen hk
  exact h hh.objs.size h₁ ⟨hns, hk₁, Nat.le_refl _⟩ .nil
theorem enter0C (X : K.In hh) (T : Top p loose mean mg mb hh)
    (ho : K.lookup f = some ⟨oc, od, .func (fnOf name qual params body scope dV kV doc pm an cdv ct), osl⟩) (hcd : codeIn K cdv qual = true) (hroom : A.depth < recursionLimit)
    (hbind : BindsTo ⟨hh, gs, dr, tk, os⟩ (fnOf name qual params body scope dV kV doc pm an cdv ct) args binds) (hkind : (binds.all fun y => scope.names.lookup y.1 == some .local || scope.names.lookup y.1 == some .cell) = true)
    (hnd : ((cellsFrom 0 scope.names []).map (·.1)).Nodup)
    (h : ∀ L' h₁ tk' cells, Fr hh L' h₁ (bindL (envOfC qual scope L' f cdv).kindOf binds fun _ => none) → News hh L' h₁ (cells ++ []) →
      CellsAre (bindC (envOfC qual scope L' f cdv).kindOf binds fun _ => none) (cellsFrom (L' + 1) scope.names []) cells →
      wpAny (model prog w) (A.deeper (envOfC qual scope L' f cdv)) (execs body (envOfC qual scope L' f cdv))
        (fun fl s' => R (.ok (.ret (match fl with | .ret v => v | _ => .none))) s')
        (fun e s' => wpAny (model prog w) (A.deeper (envOfC qual scope L' f cdv)) (leaving (envOfC qual scope L' f cdv) e) (fun _ s'' => R (.error e) s'') (fun e' s'' => R (.error e') s'') s')
        ⟨h₁, gs, dr, tk', os⟩)
    (hco : scope.isCoroutine = false) (hgen : scope.isGenerator = false) (hk : scope.kind = .function) : codeAny (model prog w) A (.call (.ref f) args) R ⟨hh, gs, dr, tk, os⟩ := by
  refine codeAny_call_function hroom (X _ _ ho) rfl hco hgen rfl (codeRec_of X hcd) (hbind _ _ _ _ ?_)
  refine wpAny_newFunctionEnv_cells hk (kindsX hkind _) fun env' he s' x => ?_
  subst he
  refine ⟨T.nolimit.keeps x.toInCall.keep, codeAny_func ?_⟩
  obtain ⟨h₁, tk', rfl, _⟩ := x.done
  have hk₁ := x.toInCall.keep
  obtain ⟨cells, NC, Y⟩ := PyProof.Rows.Cl.news (h₀ := hh) (Nat.le_refl _) fun n c hm => ⟨x.cell n c (lookup_of_mem_nodup (cellsFrom_names scope.names 0 (hh.objs.size + 1) [] [] rfl ▸ hnd) hm), x.above n c hm⟩
  exact h hh.objs.size h₁ tk' cells ⟨x.toInCall.ns, hk₁, Nat.le_refl _⟩ (by rw [List.append_nil]; exact NC) Y
end
end PartBase2
section PartTxt1
open PySem PySem.W PyProof.Rows
set_option maxRecDepth 100000
set_option maxHeartbeats 1000000
open PySem.Builtin PySem.Calls PySem.Builtin.Re
/-- ends of rows as return and feed; cr: the sign ahead was a return -/
def fixF : Bool → List Nat → List Nat
  | _, [] => []
  | cr, c :: r => if c = 10 then (if cr then fixF false r else 13 :: 10 :: fixF false r) else if c = 13 then 13 :: 10 :: fixF true r else c :: fixF false r
/-- a dot more ahead of a row that begins with one; bol: a row begins -/
def dotF : Bool → List Nat → List Nat
  | _, [] => []
  | bol, c :: r => if (bol && c == 46) = true then 46 :: 46 :: dotF false r else c :: dotF (c == 10) r
theorem fixF_true {l : List Nat} (h : l.head? ≠ some 10) : fixF true l = fixF false l := by
  cases l with
  | nil => rfl
  | cons c r =>
    have hc : c ≠ 10 := by simpa using h
    simp [fixF, hc]
theorem fixF_len : ∀ (l : List Nat) (b : Bool), (fixF b l).length ≤ 2 * l.length
  | [], _ => by simp [fixF]
  | c :: r, b => by
    have h1 := fixF_len r true
    have h2 := fixF_len r false
    unfold fixF
    (repeat' split) <;> simp <;> omega
theorem dotF_len : ∀ (l : List Nat) (b : Bool), (dotF b l).length ≤ 2 * l.length
  | [], _ => by simp [dotF]
  | c :: r, b => by
    have h1 := dotF_len r (c == 10)
    have h2 := dotF_len r false
    unfold dotF
    split <;> simp <;> omega
section
variable (text : Array Nat)
theorem drop_at {p : Nat} (h : p < text.size) : text.toList.drop p = text.getD p 0 :: text.toList.drop (p + 1) := by
  rw [List.drop_eq_getElem_cons (by simpa using h)]
  simp [Array.getD_eq_getD_getElem?, h]
theorem ext_step {p q : Nat} (h : p < q) (hq : q ≤ text.size) : (text.extract p q).toList = text.getD p 0 :: (text.extract (p + 1) q).toList := by
  simp only [Array.toList_extract, List.extract_eq_take_drop]
  rw [drop_at text (by omega), show q - p = (q - (p + 1)) + 1 by omega, List.take_succ_cons]
theorem getD_out {p : Nat} (h : text.size ≤ p) : text.getD p 0 = 0 := by simp [Array.getD_eq_getD_getElem?, h]
theorem head_drop (p : Nat) : (text.toList.drop p).head? = some 10 ↔ text.getD p 0 = 10 := by
  rcases Nat.lt_or_ge p text.size with h | h
  · rw [drop_at text h]; simp
  · rw [List.drop_eq_nil_of_le (by simpa using h), getD_out text h]; simp
theorem fix_at : ∀ (k p q : Nat), q - p = k → FirstAt (eolAt text) p text.size q → fixF false (text.toList.drop p) = (text.extract p q).toList ++ [13, 10] ++ fixF false (text.toList.drop (eolEnd text q)) := by
  intro k
  induction k with
  | zero =>
    intro p q hk h
    have e : q = p := by have := h.1; omega
    subst e
    rw [drop_at text h.2.1]
    have h3 := h.2.2.1
    unfold eolAt at h3
    simp only [Bool.or_eq_true, beq_iff_eq] at h3
    unfold eolEnd
    rcases h3 with h3 | h3
    · rw [if_neg (by omega), h3]; simp [fixF]
    · by_cases h4 : text.getD (q + 1) 0 = 10
      · rw [if_pos ⟨h3, h4⟩, h3]
        have hl : q + 1 < text.size := by
          rcases Nat.lt_or_ge (q + 1) text.size with h | h
          · exact h
          · have := getD_out text h; omega
        rw [drop_at text hl, h4]
        simp [fixF]
      · rw [if_neg (fun h => h4 h.2), h3]
        have := fixF_true (l := text.toList.drop (q + 1)) (fun h => h4 ((head_drop text (q + 1)).mp h))
        simp [fixF, this]
  | succ k ih =>
    intro p q hk h
    have hlt : p < q := by omega
    have h0 := h.2.2.2 p (Nat.le_refl _) hlt
    have hq := h.2.1
    have := ih (p + 1) q (by omega) ⟨hlt, hq, h.2.2.1, fun r a b => h.2.2.2 r (by omega) b⟩
    rw [drop_at text (by omega), ext_step text hlt (by omega)]
    unfold eolAt at h0
    rw [Bool.or_eq_false_iff] at h0
    have e1 : text.getD p 0 ≠ 10 := by simpa using h0.1
    have e2 : text.getD p 0 ≠ 13 := by simpa using h0.2
    rw [fixF, if_neg e1, if_neg e2, this]
    simp
theorem fix_no : ∀ (k p : Nat), text.size - p = k → p ≤ text.size → NoneAt (eolAt text) p text.size → fixF false (text.toList.drop p) = (text.extract p text.size).toList := by
  intro k
  induction k with
  | zero => intro p hk hp _; have : p = text.size := by omega
            subst this; rw [List.drop_eq_nil_of_le (by simp)]; simp [fixF]
  | succ k ih =>
    intro p hk hp h
    have h0 := h p (Nat.le_refl _) (by omega)
    rw [drop_at text (by omega), ext_step text (by omega) (Nat.le_refl _)]
    unfold eolAt at h0
    rw [Bool.or_eq_false_iff] at h0
    have e1 : text.getD p 0 ≠ 10 := by simpa using h0.1
    have e2 : text.getD p 0 ≠ 13 := by simpa using h0.2
    rw [fixF, if_neg e1, if_neg e2, ih (p + 1) (by omega) (by omega) (fun r a b => h r (by omega) b)]
theorem fix_subst (hsz : text.size ≤ 1048576) : Subst code3 text [13, 10] (fun p => fixF false (text.toList.drop p)) (eolAt text) (eolEnd text) 15 where
  few := by decide
  small := hsz
  finds := fun p hp => fs3 text p hp
  goes := fun q hq h => by
    by_cases h2 : text.getD q 0 = 13 ∧ text.getD (q + 1) 0 = 10
    · rw [show eolEnd text q = q + 2 from if_pos h2]
      have hl : q + 1 < text.size := by
        rcases Nat.lt_or_ge (q + 1) text.size with h | h
        · exact h
        · have := getD_out text h; omega
      omega
    · rw [show eolEnd text q = q + 1 from if_neg h2]; omega
  at_ := fun p q h => fix_at text _ p q rfl h
  no := fun p hp h => fix_no text _ p rfl hp h
theorem isBol_succ (p : Nat) : isBol text (p + 1) = (text.getD p 0 == 10) := by simp [isBol]
theorem dot_at : ∀ (k p q : Nat), q - p = k → FirstAt (dotAt text) p text.size q → dotF (isBol text p) (text.toList.drop p) = (text.extract p q).toList ++ [46, 46] ++ dotF (isBol text (q + 1)) (text.toList.drop (q + 1)) := by
  intro k
  induction k with
  | zero =>
    intro p q hk h
    have e : q = p := by have := h.1; omega
    subst e
    rw [drop_at text h.2.1]
    have h3 := h.2.2.1
    unfold dotAt at h3
    rw [dotF, if_pos h3, isBol_succ]
    have h4 : text.getD q 0 = 46 := by rw [Bool.and_eq_true] at h3; simpa using h3.2
    rw [h4]; simp
  | succ k ih =>
    intro p q hk h
    have hlt : p < q := by omega
    have h0 := h.2.2.2 p (Nat.le_refl _) hlt
    have hq := h.2.1
    have := ih (p + 1) q (by omega) ⟨hlt, hq, h.2.2.1, fun r a b => h.2.2.2 r (by omega) b⟩
    rw [drop_at text (by omega), ext_step text hlt (by omega)]
    unfold dotAt at h0
    rw [dotF, if_neg (by rw [h0]; exact Bool.false_ne_true), ← isBol_succ, this]
    simp
theorem dot_no : ∀ (k p : Nat), text.size - p = k → p ≤ text.size → NoneAt (dotAt text) p text.size → dotF (isBol text p) (text.toList.drop p) = (text.extract p text.size).toList := by
  intro k
  induction k with
  | zero => intro p hk hp _; have : p = text.size := by omega
            subst this; rw [List.drop_eq_nil_of_le (by simp)]; simp [dotF]
  | succ k ih =>
    intro p hk hp h
    have h0 := h p (Nat.le_refl _) (by omega)
    rw [drop_at text (by omega), ext_step text (by omega) (Nat.le_refl _)]
    unfold dotAt at h0
    rw [dotF, if_neg (by rw [h0]; exact Bool.false_ne_true), ← isBol_succ, ih (p + 1) (by omega) (by omega) (fun r a b => h r (by omega) b)]
theorem dot_subst (hsz : text.size ≤ 1048576) : Subst code1 text [46, 46] (fun p => dotF (isBol text p) (text.toList.drop p)) (dotAt text) (fun q => q + 1) (3 * text.size + 8) where
  few := by omega
  small := hsz
  finds := fun p hp => fs1 text p hp
  goes := fun q hq h => by omega
  at_ := fun p q h => dot_at text _ p q rfl h
  no := fun p hp h => dot_no text _ p rfl hp h
end
section
variable {prog : Program} {w : World} {A : Around} {E : Value → Shared → Prop} {s : Shared} {Q : Value → Shared → Prop}
theorem look43 (P : Params) : (hd.heap_39 P).lookup 43 = some { cls := .type "re.Pattern", data := .fields #[.str (Str.ofString "(?m)^\\.") 292, .int 40 305, .int 0 0, .none, .none, .ref 42, .int 0 0] } := by kernel_rfl
theorem look42 (P : Params) : (hd.heap_39 P).lookup 42 = some { cls := .type "tuple", data := .seq #[.int 14 0, .int 4 0, .int 0 0, .int 1 0, .int 1 0, .int 6 0, .int 1 0, .int 16 0, .int 46 0, .int 1 0] } := by kernel_rfl
theorem look48 (P : Params) : (hd.heap_39 P).lookup 48 = some { cls := .type "re.Pattern", data := .fields #[.bytes #[40, 63, 109, 41, 94, 92, 46] 308, .int 8 321, .int 0 0, .none, .none, .ref 47, .int 1 0] } := by kernel_rfl
theorem look47 (P : Params) : (hd.heap_39 P).lookup 47 = some { cls := .type "tuple", data := .seq #[.int 14 0, .int 4 0, .int 0 0, .int 1 0, .int 1 0, .int 6 0, .int 1 0, .int 16 0, .int 46 0, .int 1 0] } := by kernel_rfl
theorem look53 (P : Params) : (hd.heap_39 P).lookup 53 = some { cls := .type "re.Pattern", data := .fields #[.str (Str.ofString "(?:\\r\\n|\\n|\\r(?!\\n))") 324, .int 32 363, .int 0 0, .none, .none, .ref 52, .int 0 0] } := by kernel_rfl
theorem look52 (P : Params) : (hd.heap_39 P).lookup 52 = some { cls := .type "tuple", data := .seq #[.int 14 0, .int 9 0, .int 4 0, .int 1 0, .int 2 0, .int 16 0, .int 10 0, .int 16 0, .int 13 0, .int 0 0, .int 7 0, .int 7 0, .int 16 0, .int 13 0, .int 16 0, .int 10 0, .int 15 0, .int 18 0, .int 5 0, .int 16 0, .int 10 0, .int 15 0, .int 13 0, .int 11 0, .int 16 0, .int 13 0, .int 5 0, .int 5 0, .int 0 0, .int 16 0, .int 10 0, .int 1 0, .int 15 0, .int 2 0, .int 0 0, .int 1 0] } := by kernel_rfl
theorem pat43 (X : (hd.heap_39 w.params).In s.heap) : PatAt s.heap 43 42 code1 0 := ⟨⟨_, _, _, _, _, X _ _ (look43 _), rfl, rfl, rfl, rfl, X _ _ (look42 _), rfl, by kernel_rfl⟩⟩
theorem pat48 (X : (hd.heap_39 w.params).In s.heap) : PatAt s.heap 48 47 code1 1 := ⟨⟨_, _, _, _, _, X _ _ (look48 _), rfl, rfl, rfl, rfl, X _ _ (look47 _), rfl, by kernel_rfl⟩⟩
theorem pat53 (X : (hd.heap_39 w.params).In s.heap) : PatAt s.heap 53 52 code3 0 := ⟨⟨_, _, _, _, _, X _ _ (look53 _), rfl, rfl, rfl, rfl, X _ _ (look52 _), rfl, by kernel_rfl⟩⟩
/-- the text of a list of signs -/
def tx (l : List Nat) : Str := ⟨l.toArray⟩
theorem fix_call {x : Str} {t u : Tok} (X : (hd.heap_39 w.params).In s.heap) (hsz : x.length ≤ 1048576)
    (hq : ∀ (h' : Heap) (k' : Nat) (t' : Tok), (∀ b o, s.heap.get? b = some o → h'.get? b = some o) → Q (.str (tx (fixF false x.cps.toList)) t') { s with heap := h', toks := k' }) :
    wpAny (model prog w) A (call (.builtin "re.Pattern.sub") [.ref 53, .str (Str.ofString "\r\n") u, .str x t]) Q E s := by
  have S := fix_subst x.cps hsz
  have hl := fixF_len x.cps.toList false
  refine call_sub_str (r := Str.ofString "\r\n") (X _ _ (look53 _)) rfl (S : Subst _ _ (Str.ofString "\r\n").cps.toList _ _ _ _) (pat53 X) (by decide +kernel) ?_ hq
  have : x.cps.toList.length ≤ 1048576 := hsz
  show (fixF false x.cps.toList).length ≤ _
  omega
theorem dot_call {x : Str} {t u : Tok} (X : (hd.heap_39 w.params).In s.heap) (hsz : x.length ≤ 1048576)
    (hq : ∀ (h' : Heap) (k' : Nat) (t' : Tok), (∀ b o, s.heap.get? b = some o → h'.get? b = some o) → Q (.str (tx (dotF true x.cps.toList)) t') { s with heap := h', toks := k' }) :
    wpAny (model prog w) A (call (.builtin "re.Pattern.sub") [.ref 43, .str (Str.ofString "..") u, .str x t]) Q E s := by
  have S := dot_subst x.cps hsz
  have hl := dotF_len x.cps.toList true
  refine call_sub_str (r := Str.ofString "..") (X _ _ (look43 _)) rfl (S : Subst _ _ (Str.ofString "..").cps.toList _ _ _ _) (pat43 X) (by decide +kernel) ?_ hq
  have : x.cps.toList.length ≤ 1048576 := hsz
  show (dotF true x.cps.toList).length ≤ _
  omega
theorem dotb_call {x : Array UInt8} {t u : Tok} (X : (hd.heap_39 w.params).In s.heap) (hsz : x.size ≤ 1048576)
    (hq : ∀ (h' : Heap) (k' : Nat) (t' : Tok), (∀ b o, s.heap.get? b = some o → h'.get? b = some o) → Q (.bytes (octs (dotF true (x.map (·.toNat)).toList)) t') { s with heap := h', toks := k' }) :
    wpAny (model prog w) A (call (.builtin "re.Pattern.sub") [.ref 48, .bytes #[46, 46] u, .bytes x t]) Q E s := by
  have S := dot_subst (x.map (·.toNat)) (by simpa using hsz)
  have hl := dotF_len (x.map (·.toNat)).toList true
  have e : ((#[46, 46] : Array UInt8).map (fun c : UInt8 => c.toNat)).toList = [46, 46] := by simp
  have S' : Subst code1 (x.map (fun c : UInt8 => c.toNat)) ((#[46, 46] : Array UInt8).map (fun c : UInt8 => c.toNat)).toList (fun p => dotF (isBol (x.map (fun c : UInt8 => c.toNat)) p) ((x.map (fun c : UInt8 => c.toNat)).toList.drop p)) (dotAt (x.map (fun c : UInt8 => c.toNat))) (fun q => q + 1) (3 * (x.map (fun c : UInt8 => c.toNat)).size + 8) := by
    rw [e]; exact S
  refine call_sub_bytes (r := #[46, 46]) (X _ _ (look48 _)) rfl S' (pat48 X) (by decide +kernel) ?_ hq
  have : (x.map (·.toNat)).toList.length ≤ 1048576 := by simpa using hsz
  show (dotF true (x.map (·.toNat)).toList).length ≤ _
  omega
end
end PartTxt1
open PySem PySem.W PyProof.Rows
local macro_rules | `(tactic| walk_at "mine:in") => `(tactic| (refine wpAny_call ?_; k_dflt (refine' enter0 ?k3 ?k5 ?k6 ?k7 ?k8 ?k9 ?kB ?_ ?c2 ?c3 ?c4 ?c5; (case k3 => assumption); (case k5 => assumption); (case k6 => k_is); (case k7 => k_is); (case k8 => ktr_room); (case k9 => first | exact BindsTo.of_eq rfl | exact binds_K (by k_in) rfl (by k_is) rfl rfl rfl | (refine' kp_binds ?kx ?ke; (case kx => k_in); (case ke => exact fun _ => rfl))); (case kB => exact locs rfl); (case c2 => exact rfl); (case c3 => exact rfl); (case c4 => exact rfl); (case c5 => decide); k_whole; intro L' h' F' N'; (try dsimp only); (try k_fold))))
section PartFn1
open PySem PySem.W PyProof.Rows
set_option maxRecDepth 100000
set_option maxHeartbeats 8000000
open PySem.Builtin PySem.Calls
theorem fillme1 : PySem.Challenge.rw_pa0025_01 = PySem.Challenge.rw_pa0025_01 ∧ hd.heap_39 = hd.heap_39 := by
  k_fill
  exact ⟨rfl, rfl⟩
section
variable {prog : Program} {w : World} {A : Around} {E : Value → Shared → Prop} {s : Shared} {Q : Value → Shared → Prop} {h₀ : Heap} {L : Addr} {m : Str → Option Value} {news : List (Addr × Obj)}
theorem fix_K {x : Str} {t u : Tok} (F : Fr h₀ L s.heap m) (N : News h₀ L s.heap news) (X : (hd.heap_39 w.params).In h₀) (hsz : x.length ≤ 1048576)
    (hq : ∀ (h' : Heap) (k' : Nat) (t' : Tok), Fr h₀ L h' m → News h₀ L h' news → Q (.str (tx (fixF false x.cps.toList)) t') { s with heap := h', toks := k' }) :
    wpAny (model prog w) A (call (.builtin "re.Pattern.sub") [.ref 53, .str (Str.ofString "\r\n") u, .str x t]) Q E s :=
  fix_call (X.keeps F.keep) hsz fun h' k' t' hk => hq h' k' t' (F.keeps hk) (N.grown hk)
theorem dot_K {x : Str} {t u : Tok} (F : Fr h₀ L s.heap m) (N : News h₀ L s.heap news) (X : (hd.heap_39 w.params).In h₀) (hsz : x.length ≤ 1048576)
    (hq : ∀ (h' : Heap) (k' : Nat) (t' : Tok), Fr h₀ L h' m → News h₀ L h' news → Q (.str (tx (dotF true x.cps.toList)) t') { s with heap := h', toks := k' }) :
    wpAny (model prog w) A (call (.builtin "re.Pattern.sub") [.ref 43, .str (Str.ofString "..") u, .str x t]) Q E s :=
  dot_call (X.keeps F.keep) hsz fun h' k' t' hk => hq h' k' t' (F.keeps hk) (N.grown hk)
theorem dotb_K {x : Array UInt8} {t u : Tok} (F : Fr h₀ L s.heap m) (N : News h₀ L s.heap news) (X : (hd.heap_39 w.params).In h₀) (hsz : x.size ≤ 1048576)
    (hq : ∀ (h' : Heap) (k' : Nat) (t' : Tok), Fr h₀ L h' m → News h₀ L h' news → Q (.bytes (octs (dotF true (x.map (·.toNat)).toList)) t') { s with heap := h', toks := k' }) :
    wpAny (model prog w) A (call (.builtin "re.Pattern.sub") [.ref 48, .bytes #[46, 46] u, .bytes x t]) Q E s :=
  dotb_call (X.keeps F.keep) hsz fun h' k' t' hk => hq h' k' t' (F.keeps hk) (N.grown hk)
theorem sub_meth_K {M : Model} {pt : Addr} {o : Obj} {pl : Sem Bool} {Q : Value × List Value → Shared → Prop} (F : Fr h₀ L s.heap m) (X : (hd.heap_39 w.params).In h₀) (hl : (hd.heap_39 w.params).lookup pt = some o) (hc : o.cls = .type "re.Pattern") (hd : o.dict = none) (h : Q (.builtin "re.Pattern.sub", [.ref pt]) s) :
    wpAny M A (getMethod (.ref pt) "sub" pl) Q E s := meth_sub (X.keeps F.keep _ _ hl) hc hd h
end
local macro_rules | `(tactic| walk_at "call type:type") => `(tactic| (k_here; (with_reducible refine type_bytes ?_)))
local macro_rules | `(tactic| walk_at "getMethod str") => `(tactic| (k_here; (with_reducible refine meth_encode ?_)))
local macro_rules | `(tactic| walk_at "call builtin:str.encode") => `(tactic| (k_here; (refine call_encode (by assumption) (by assumption) ?_); intro _ _))
local macro_rules | `(tactic| walk_at "getMethod bytes") => `(tactic| (k_here; (with_reducible refine meth_translate ?_)))
local macro_rules | `(tactic| walk_at "getMethod type:bytes") => `(tactic| (k_here; (with_reducible refine meth_maketrans (by k_asm) ?_)))
local macro_rules | `(tactic| walk_at "getMethod ref") => `(tactic| (k_here; first | (refine sub_meth_K (pt := 43) (by k_asm) (by k_asm) (look43 _) rfl rfl ?_) | (refine sub_meth_K (pt := 48) (by k_asm) (by k_asm) (look48 _) rfl rfl ?_) | (refine sub_meth_K (pt := 53) (by k_asm) (by k_asm) (look53 _) rfl rfl ?_)))
local macro_rules | `(tactic| walk_at "call builtin:re.Pattern.sub") => `(tactic| (k_here; first | (refine fix_K (by k_asm) (by k_asm) (by k_asm) (by assumption) ?_; intro _ _ _ F' N') | (refine dot_K (by k_asm) (by k_asm) (by k_asm) (by assumption) ?_; intro _ _ _ F' N') | (refine dotb_K (by k_asm) (by k_asm) (by k_asm) (by assumption) ?_; intro _ _ _ F' N')))
section
variable (w : World) (mean : ExcName → Option Value) (mg mb : Str → Option Value)
abbrev Plain : Heap → Prop := fun _ => True
theorem c_truth (b : Bool) : Says w mean mg mb 1 (call (.ref 116) [.bool b]) Plain (fun _ v _ => v = .bool b) := by
  unfold Says; intros; rename_i hret; walk_at "mine:in"
  w_nolog k_steps
  all_goals (refine hret _ _ _ (Fr.keep (by k_asm)) ?_; simp_all)
theorem c_buffer (b : Array UInt8) (t : Tok) : Says w mean mg mb 1 (call (.ref 109) [.bytes b t]) Plain (fun _ v _ => v = .bytes b t) := by
  unfold Says; intros; rename_i hret; walk_at "mine:in"
  w_nolog k_steps
  all_goals exact hret _ _ _ (Fr.keep (by k_asm)) rfl
theorem c_abuffer (b : Array UInt8) (t : Tok) : Says w mean mg mb 1 (call (.ref 102) [.bytes b t]) Plain (fun _ v _ => v = .bytes b t) := by
  unfold Says; intros; rename_i hret; walk_at "mine:in"
  w_nolog k_steps
  all_goals exact hret _ _ _ (Fr.keep (by k_asm)) rfl
theorem c_bfdd (x : Str) (t : Tok) (hx : ∀ c ∈ x.cps, c < 128) (hsz : x.length ≤ 16777216) : Says w mean mg mb 1 (call (.ref 82) [.str x t]) Plain (fun _ v _ => ∃ t', v = .bytes (asciiOf x) t') := by
  unfold Says; intros; rename_i hret; walk_at "mine:in"
  w_nolog k_steps
  all_goals exact hret _ _ _ (Fr.keep (by k_asm)) ⟨_, rfl⟩
theorem c_fix (x : Str) (t : Tok) (hsz : x.length ≤ 1048576) : Says w mean mg mb 1 (call (.ref 74) [.str x t]) Plain (fun _ v _ => ∃ t', v = .str (tx (fixF false x.cps.toList)) t') := by
  unfold Says; intros; rename_i hret; walk_at "mine:in"
  w_nolog k_steps
  all_goals exact hret _ _ _ (Fr.keep (by k_asm)) ⟨_, rfl⟩
theorem c_qp (x : Array UInt8) (t : Tok) (hsz : x.size ≤ 1048576) : Says w mean mg mb 1 (call (.ref 67) [.bytes x t]) Plain (fun _ v _ => ∃ t', v = .bytes (octs (dotF true (x.map (·.toNat)).toList)) t') := by
  unfold Says; intros; rename_i hret; walk_at "mine:in"
  w_nolog k_steps
  all_goals exact hret _ _ _ (Fr.keep (by k_asm)) ⟨_, rfl⟩
theorem fix_small {x : Str} (h : x.length ≤ 524288) : (tx (fixF false x.cps.toList)).length ≤ 1048576 := by
  have := fixF_len x.cps.toList false
  have h2 : x.cps.toList.length ≤ 524288 := h
  show (fixF false x.cps.toList).toArray.size ≤ _
  rw [List.size_toArray]; omega
theorem c_quote (x : Str) (t : Tok) (hsz : x.length ≤ 524288) : Says w mean mg mb 1 (call (.ref 60) [.str x t]) Plain (fun _ v _ => ∃ t', v = .str (tx (dotF true (fixF false x.cps.toList))) t') := by
  have hsz1 : x.length ≤ 1048576 := by omega
  have hsz2 := fix_small hsz
  unfold Says; intros; rename_i hret; walk_at "mine:in"
  w_nolog k_steps
  all_goals exact hret _ _ _ (Fr.keep (by k_asm)) ⟨_, rfl⟩
theorem c_signs (x : Str) (t : Tok) (hsz : x.length ≤ 1048576) : Says w mean mg mb 1 (call (.ref 172) [.str x t]) Plain (fun _ v _ => ∃ t', v = .str (Str.ofString "ABCDEFGHIJKLMNOPQRSTUVWXYZabcdefghijklmnopqrstuvwxyz0123456789" ++ x) t') := by
  unfold Says; intros; rename_i hret; walk_at "mine:in"
  w_nolog k_steps
  all_goals exact hret _ _ _ (Fr.keep (by k_asm)) ⟨_, rfl⟩
def bval (c : Int) : Int := if 65 ≤ c ∧ c ≤ 90 then c - 65 else if 97 ≤ c ∧ c ≤ 122 then c - 71 else if 48 ≤ c ∧ c ≤ 57 then c + 4 else if c = 43 then 62 else if c = 47 then 63 else 64
theorem c_bval (c : Int) (t : Tok) : Says w mean mg mb 1 (call (.ref 123) [.int c t]) Plain (fun _ v _ => ∃ t', v = .int (bval c) t') := by
  unfold Says; intros; rename_i hret; walk_at "mine:in"
  w_nolog k_steps
  all_goals (refine hret _ _ _ (Fr.keep (by k_asm)) (ktn_int ?_); unfold bval; simp only [decide_eq_true_eq, decide_eq_false_iff_not] at *; (repeat' split) <;> omega)
end
end PartFn1
section PartLoop
open PySem PySem.W PyProof.Rows
set_option maxRecDepth 100000
set_option maxHeartbeats 2000000
/-- a goal at which the walk waits -/
def Hold (P : Prop) : Prop := P
theorem hold {P : Prop} (h : Hold P) : P := h
open PySem.Calls
section
variable {prog : Program} {w : World} {A : Around} {E : Value → Shared → Prop} {s : Shared} {env : Env} {h₀ : Heap} {x : Str} {body : List Stmt} {Q : Flow → Shared → Prop} {σ : Type}
/-- what holds between two turns: the ledger and the names that count are told by one datum c -/
def KS (Led : σ → List (Addr × Obj)) (ps : σ → List (Str × Value)) (P : Nat → σ → Prop) (i : Nat) (m : Str → Option Value) (nx : List (Addr × Obj)) : Prop :=
  ∃ c : σ, nx = Led c ∧ (∀ p ∈ ps c, m p.1 = some p.2) ∧ P i c
theorem kstB_of {m : Str → Option Value} {ps : List (Str × Value)} (h : ∀ p ∈ ps, m p.1 = some p.2) : kstB m ps = m := by
  funext z
  exact kstB_eq h fun _ => rfl
theorem loop_bytes {b : Array UInt8} {tb : Tok} {m₀ : Str → Option Value} (Led : σ → List (Addr × Obj)) (ps : σ → List (Str × Value)) (P : Nat → σ → Prop) (c₀ : σ)
    (hh : A.handled = none) (F : Fr h₀ env.locals s.heap m₀) (N : News h₀ env.locals s.heap (Led c₀)) (hk : ∀ p ∈ ps c₀, m₀ p.1 = some p.2) (hp : P 0 c₀)
    (turn : ∀ (c : σ) (i : Nat) (n : UInt8) t (u : Str → Option Value) h tk own, b[i]? = some n → OwnOff own ((Led c₀).map (·.1)) → P i c →
      Fr h₀ env.locals h (fun y => if y = x then some (.int (n.toNat : Int) t) else kstB u (ps c) y) → News h₀ env.locals h (Led c ++ own) →
      wpAny (model prog w) A (execs body env) (InvPostN h₀ env.locals (KS Led ps P (i + 1)) own ((Led c₀).map (·.1)) { s with heap := h, toks := tk } Q) E { s with heap := h, toks := tk })
    (done : ∀ (c : σ) (u : Str → Option Value) h tk, P b.size c → Fr h₀ env.locals h (kstB u (ps c)) → News h₀ env.locals h (Led c) → Q .next { s with heap := h, toks := tk }) :
    wpAny (model prog w) A (pyIter (.bytes b tb)) (fun it s₂ => LoopAtV prog w A h₀ env x body Q E it s₂) E s := by
  refine KBw.pyIter_bytes ?_
  have W := KBw.walks (prog := prog) (w := w) hh s.heap.objs.size b tb
  refine loop_invN (KS Led ps P) W ?_ ?_ ?_ ?_ ⟨_, Heap.get?_push_size _ rfl, rfl, rfl⟩ (F.push _) (fun p hp => ⟨Heap.get?_push_of_some _ (N p hp).1, (N p hp).2⟩) ⟨c₀, rfl, hk, hp⟩ ?_ ?_
  · intro hm
    exact absurd F.ns.lt ((List.mem_singleton.mp hm) ▸ Nat.lt_irrefl _)
  · intro b' hb
    rw [List.mem_singleton.mp hb]
    exact next_is_new F
  · intro p hp hI
    exact absurd (Heap.lt_size (N p hp).1) ((List.mem_singleton.mp hI) ▸ Nat.lt_irrefl _)
  · intro p hp hI
    exact absurd (Heap.lt_size (N p hp).1) ((List.mem_singleton.mp hI) ▸ Nat.lt_irrefl _)
  · rintro i v m₁ nx h tk own hi ⟨n, u, hn, rfl⟩ _ hoff ⟨c, rfl, h1, hp'⟩ F₁ N₁
    rw [← kstB_of h1] at F₁
    exact turn c i n u m₁ h tk own hn hoff hp' F₁ N₁
  · rintro m₁ nx h tk ⟨c, rfl, h1, hp'⟩ F₁ N₁
    rw [← kstB_of h1] at F₁
    exact done c m₁ h tk hp' F₁ N₁
theorem loop_ints {l : Addr} {vs : List Value} {ns : List Int} {m₀ : Str → Option Value} (Led : σ → List (Addr × Obj)) (ps : σ → List (Str × Value)) (P : Nat → σ → Prop) (c₀ : σ)
    (hh : A.handled = none) (hl : h₀.IsList l vs.toArray) (hi : IntsAre vs ns) (F : Fr h₀ env.locals s.heap m₀) (N : News h₀ env.locals s.heap (Led c₀)) (hk : ∀ p ∈ ps c₀, m₀ p.1 = some p.2) (hp : P 0 c₀)
    (turn : ∀ (c : σ) (i : Nat) (n : Int) t (u : Str → Option Value) h tk own, ns[i]? = some n → OwnOff own ((Led c₀).map (·.1)) → P i c →
      Fr h₀ env.locals h (fun y => if y = x then some (.int n t) else kstB u (ps c) y) → News h₀ env.locals h (Led c ++ own) →
      wpAny (model prog w) A (execs body env) (InvPostN h₀ env.locals (KS Led ps P (i + 1)) own ((Led c₀).map (·.1)) { s with heap := h, toks := tk } Q) E { s with heap := h, toks := tk })
    (done : ∀ (c : σ) (u : Str → Option Value) h tk, P ns.length c → Fr h₀ env.locals h (kstB u (ps c)) → News h₀ env.locals h (Led c) → Q .next { s with heap := h, toks := tk }) :
    wpAny (model prog w) A (pyIter (.ref l)) (fun it s₂ => LoopAtV prog w A h₀ env x body Q E it s₂) E s := by
  refine iter_invN (KS Led ps P) hh hl hi F N ⟨c₀, rfl, hk, hp⟩ ?_ ?_
  · rintro i n t m₁ nx h tk own hn _ hoff ⟨c, rfl, h1, hp'⟩ F₁ N₁
    rw [← kstB_of h1] at F₁
    exact turn c i n t m₁ h tk own hn hoff hp' F₁ N₁
  · rintro m₁ nx h tk ⟨c, rfl, h1, hp'⟩ F₁ N₁
    rw [← kstB_of h1] at F₁
    exact done c m₁ h tk hp' F₁ N₁
theorem ks_end {L : Addr} {Led : σ → List (Addr × Obj)} {ps : σ → List (Str × Value)} {P : Nat → σ → Prop} {i : Nat} {own news' : List (Addr × Obj)} {adr : List Addr} {s₁ : Shared} {h' : Heap} {m' : Str → Option Value} {tk : Nat} (c' : σ)
    (F : Fr h₀ L h' m') (N : News h₀ L h' news') (hm : ∀ p ∈ ps c', m' p.1 = some p.2) (hP : P i c') (ha : (Led c').map (·.1) = adr) (hn : ∀ p ∈ Led c', p ∈ news') (ho : ∀ p ∈ own, p ∈ news') :
    InvEndN h₀ L (KS Led ps P i) own adr s₁ { s₁ with heap := h', toks := tk } := InvEndN.intro F N ⟨c', rfl, hm, hP⟩ ha hn ho
end
end PartLoop
local macro_rules | `(tactic| walk_at "mine:use") => `(tactic| ((case B => k_asm); (case F => k_asm); (case X => k_asm); (case N => k_asm); (case T => k_asm); (case hf => exact rfl); (case hk => exact rfl); (case d => ktr_room); (case u => ktr_units)))
local macro_rules | `(tactic| walk_at "mine:got") => `(tactic| (intro v9 h9 tk9 F9 N9 g9 r9; first | (obtain ⟨t9, r9⟩ := r9; subst r9) | subst r9))
local macro_rules | `(tactic| walk_at "mine:use2") => `(tactic| (walk_at "mine:use"; (case P => trivial); walk_at "mine:got"; (try dsimp only); (try k_fold)))
section PartFn2
open PySem PySem.W PyProof.Rows
set_option maxRecDepth 100000
set_option maxHeartbeats 4000000
/-- the reading's state: octets so far, place in the four, bits left, signs = -/
structure A2 where
  out : List Int
  q : Int
  l : Int
  p : Int
def a2step (s : A2) (c : Int) : A2 :=
  if c = 61 then ⟨s.out, s.q, s.l, s.p + 1⟩
  else if 64 ≤ bval c then s
  else if s.q = 0 then ⟨s.out, 1, bval c, 0⟩
  else if s.q = 1 then ⟨s.out ++ [Builtin.bitOr (s.l * 2 ^ Int.toNat 2) ((bval c).fdiv (2 ^ Int.toNat 4))], 2, Builtin.bitAnd (bval c) 15, 0⟩
  else if s.q = 2 then ⟨s.out ++ [Builtin.bitOr (s.l * 2 ^ Int.toNat 4) ((bval c).fdiv (2 ^ Int.toNat 2))], 3, Builtin.bitAnd (bval c) 3, 0⟩
  else ⟨s.out ++ [Builtin.bitOr (s.l * 2 ^ Int.toNat 6) (bval c)], 0, 0, 0⟩
def a2run (ks : List Int) : A2 := ks.foldl a2step ⟨[], 0, 0, 0⟩
structure A2S where
  vs : List Value
  n : Nat
  q : Int
  l : Int
  p : Int
  i : Int
  tq : Tok
  tl : Tok
  tp : Tok
  ti : Tok
abbrev a2Led (oa : Addr) (c : A2S) : List (Addr × Obj) := [(oa, W.listOf c.vs.toArray c.n)]
abbrev a2ps (oa : Addr) (c : A2S) : List (Str × Value) := [(Str.ofString "out", .ref oa), (Str.ofString "strict_mode", .bool false), (Str.ofString "quad_pos", .int c.q c.tq), (Str.ofString "leftchar", .int c.l c.tl), (Str.ofString "pads", .int c.p c.tp), (Str.ofString "i", .int c.i c.ti)]
def A2Ok (ks : List Int) (i : Nat) (c : A2S) : Prop := ∃ out, IntsAre c.vs out ∧ a2run (ks.take i) = ⟨out, c.q, c.l, c.p⟩ ∧ 0 ≤ c.i ∧ c.i ≤ i
theorem bval_range (c : Int) : 0 ≤ bval c ∧ bval c ≤ 64 := by
  unfold bval
  (repeat' split) <;> omega
theorem bor_nat (a b : Nat) : Builtin.bitOr (a : Int) (b : Int) = ((a ||| b : Nat) : Int) := by
  have e : ∀ n : Nat, Builtin.bitNot (n : Int) = -(n : Int) - 1 := fun n => by unfold Builtin.bitNot; omega
  unfold Builtin.bitOr Builtin.bitAnd
  have h1 : decide (Builtin.bitNot (a : Int) ≥ 0) = false := by rw [e]; simp; omega
  have h2 : decide (Builtin.bitNot (b : Int) ≥ 0) = false := by rw [e]; simp; omega
  rw [h1, h2]
  simp only [e, Builtin.bitNot]
  have h3 : (-(-(a : Int) - 1) - 1).toNat = a := by omega
  have h4 : (-(-(b : Int) - 1) - 1).toNat = b := by omega
  rw [h3, h4]; omega
theorem bor_of {a b : Int} (k : Nat) (ha : 0 ≤ a) (hb : 0 ≤ b) (hk : b < 2 ^ k) : Builtin.bitOr (a * 2 ^ k) b = a * 2 ^ k + b := by
  obtain ⟨x, rfl⟩ := Int.eq_ofNat_of_zero_le ha
  obtain ⟨y, rfl⟩ := Int.eq_ofNat_of_zero_le hb
  have hy : y < 2 ^ k := by
    have : ((y : Nat) : Int) < ((2 ^ k : Nat) : Int) := by simpa using hk
    omega
  have := Nat.two_pow_add_eq_or_of_lt hy x
  rw [show ((x : Int) * 2 ^ k) = ((2 ^ k * x : Nat) : Int) by push_cast; rw [Int.mul_comm], bor_nat, ← this]
  push_cast; rfl
/-- what the reading's state keeps to -/
structure A2Inv (s : A2) (n : Nat) : Prop where
  q0 : 0 ≤ s.q
  q3 : s.q ≤ 3
  l0 : 0 ≤ s.l
  l1 : s.q = 0 → s.l = 0
  l2 : s.l < 64
  l3 : s.q = 2 → s.l < 16
  l4 : s.q = 3 → s.l < 4
  p0 : 0 ≤ s.p
  pn : s.p ≤ n
  len : s.out.length ≤ n
  oct : ∀ x ∈ s.out, 0 ≤ x ∧ x < 256
theorem a2_val1 {l v : Int} (h0 : 0 ≤ l) (h1 : l < 64) (h2 : 0 ≤ v) (h3 : v < 64) : Builtin.bitOr (l * 2 ^ Int.toNat 2) (v.fdiv (2 ^ Int.toNat 4)) = l * 4 + v / 16 := by
  have e : v.fdiv (2 ^ Int.toNat 4) = v / 16 := by rw [Int.fdiv_eq_ediv_of_nonneg _ (by decide)]; rfl
  rw [e]
  exact bor_of 2 h0 (by omega) (by show v / 16 < 4; omega)
theorem a2_val2 {l v : Int} (h0 : 0 ≤ l) (h1 : l < 16) (h2 : 0 ≤ v) (h3 : v < 64) : Builtin.bitOr (l * 2 ^ Int.toNat 4) (v.fdiv (2 ^ Int.toNat 2)) = l * 16 + v / 4 := by
  have e : v.fdiv (2 ^ Int.toNat 2) = v / 4 := by rw [Int.fdiv_eq_ediv_of_nonneg _ (by decide)]; rfl
  rw [e]
  exact bor_of 4 h0 (by omega) (by show v / 4 < 16; omega)
theorem a2_val3 {l v : Int} (h0 : 0 ≤ l) (h1 : l < 4) (h2 : 0 ≤ v) (h3 : v < 64) : Builtin.bitOr (l * 2 ^ Int.toNat 6) v = l * 64 + v :=
  bor_of 6 h0 h2 (by show v < 64; omega)
theorem a2_step_inv {s : A2} {n : Nat} (h : A2Inv s n) (c : Int) : A2Inv (a2step s c) (n + 1) := by
  obtain ⟨q0, q3, l0, l1, l2, l3, l4, p0, pn, len, oct⟩ := h
  have hb := bval_range c
  unfold a2step
  split
  · exact ⟨q0, q3, l0, l1, l2, l3, l4, by show 0 ≤ s.p + 1; omega, by show s.p + 1 ≤ _; omega, by show s.out.length ≤ _; omega, oct⟩
  split
  · exact ⟨q0, q3, l0, l1, l2, l3, l4, p0, by omega, by omega, oct⟩
  rename_i hv
  have hv : bval c < 64 := by omega
  have app : ∀ x : Int, 0 ≤ x → x < 256 → ∀ y ∈ s.out ++ [x], 0 ≤ y ∧ y < 256 := fun x a b y hy => by
    rcases List.mem_append.mp hy with h | h
    · exact oct y h
    · rw [List.mem_singleton.mp h]; exact ⟨a, b⟩
  split
  · constructor <;> dsimp only <;> first | exact oct | omega
  split
  · rw [a2_val1 l0 l2 hb.1 hv, bitAnd_m4]
    constructor <;> dsimp only <;> first | exact app _ (by omega) (by omega) | omega | (simp; omega)
  split
  · rename_i h2
    have := l3 h2
    rw [a2_val2 l0 this hb.1 hv, bitAnd_m2]
    constructor <;> dsimp only <;> first | exact app _ (by omega) (by omega) | omega | (simp; omega)
  · rename_i ha hb2 hc
    have := l4 (by omega)
    rw [a2_val3 l0 this hb.1 hv]
    constructor <;> dsimp only <;> first | exact app _ (by omega) (by omega) | omega | (simp; omega)
theorem a2run_snoc (ks : List Int) (c : Int) : a2run (ks ++ [c]) = a2step (a2run ks) c := by simp [a2run]
theorem a2run_inv (ks : List Int) : A2Inv (a2run ks) ks.length := by
  have key : ∀ n, ∀ ks : List Int, ks.length = n → A2Inv (a2run ks) n := by
    intro n
    induction n with
    | zero => intro ks h; rw [List.length_eq_zero_iff.mp h]; exact ⟨by decide, by decide, by decide, fun _ => rfl, by decide, fun h => absurd h (by decide), fun h => absurd h (by decide), by decide, by decide, by decide, fun x hx => by cases hx⟩
    | succ n ih =>
      intro ks h
      obtain ⟨l, c, rfl⟩ : ∃ l c, ks = l ++ [c] := ⟨ks.dropLast, ks.getLast (by intro e; rw [e] at h; simp at h), (List.dropLast_concat_getLast _).symm⟩
      rw [a2run_snoc]
      exact a2_step_inv (ih l (by simpa using h)) c
  exact key _ ks rfl
theorem ints_snoc {vs : List Value} {ns : List Int} (h : IntsAre vs ns) (x : Int) (t : Tok) : IntsAre (vs ++ [.int x t]) (ns ++ [x]) := h.append (.cons x t .nil)
theorem a2_w1 {ks : List Int} {i n' : Nat} {c : A2S} {ch q' l' p' : Int} {tq tl tp ti : Tok} (h : A2Ok ks i c) (hn : ks[i]? = some ch) (e : ∀ out, a2step ⟨out, c.q, c.l, c.p⟩ ch = ⟨out, q', l', p'⟩) : A2Ok ks (i + 1) ⟨c.vs, n', q', l', p', c.i + 1, tq, tl, tp, ti⟩ := by
  obtain ⟨out, hI, hr, h0, h1⟩ := h
  refine ⟨out, hI, ?_, by show 0 ≤ c.i + 1; omega, by show c.i + 1 ≤ _; omega⟩
  rw [List.take_add_one, hn, Option.toList_some, a2run_snoc, hr]
  exact e out
theorem a2_w2 {ks : List Int} {i n' : Nat} {c : A2S} {ch q' l' p' x : Int} {tx tq tl tp ti : Tok} (h : A2Ok ks i c) (hn : ks[i]? = some ch) (e : ∀ out, a2step ⟨out, c.q, c.l, c.p⟩ ch = ⟨out ++ [x], q', l', p'⟩) : A2Ok ks (i + 1) ⟨c.vs ++ [.int x tx], n', q', l', p', c.i + 1, tq, tl, tp, ti⟩ := by
  obtain ⟨out, hI, hr, h0, h1⟩ := h
  refine ⟨out ++ [x], ints_snoc hI x tx, ?_, by show 0 ≤ c.i + 1; omega, by show c.i + 1 ≤ _; omega⟩
  rw [List.take_add_one, hn, Option.toList_some, a2run_snoc, hr]
  exact e out
theorem fillme2 : PySem.Challenge.rw_pa0025_01 = PySem.Challenge.rw_pa0025_01 ∧ hd.heap_39 = hd.heap_39 := by
  k_fill
  exact ⟨rfl, rfl⟩
local macro_rules | `(tactic| walk_at "call ref") => `(tactic| (k_here; refine hold ?_))
local macro_rules | `(tactic| walk_at "InvEndN") => `(tactic| (refine hold ?_))
section
variable (w : World) (mean : ExcName → Option Value) (mg mb : Str → Option Value)
abbrev octInts (b : Array UInt8) : List Int := b.toList.map fun n => (n.toNat : Int)
/-- a call that gives back or refuses by the text's own Error -/
def Says2 (w : World) (mean : ExcName → Option Value) (mg mb : Str → Option Value) (k : Nat) (t : Sem Value) (P : Heap → Prop) (good : Prop) (R : Heap → Value → Heap → Prop) : Prop :=
  ∀ (dp un : Nat) (gd : Option (List Code)) (fr : List Env) (base hh : Heap) (gs : Array GenState) (dr : Drawn) (tk : Nat) (os : OsState) (Q E : Value → Shared → Prop),
    Below (ctx dp un gd fr) base fr hh → (hd.heap_39 w.params).In hh → TopAt mean mg mb hh → dp + k < recursionLimit → un + 8 * k < cLine → P hh →
    (¬ good → ∀ (e : Addr) (h' : Heap) (tk' : Nat) (t' : Addr) (vs : List Value) (news : List (Addr × Obj)), RaisedK base fr e (.ref 92) t' vs news h' → hh.UpToSlots h' → E (.ref e) ⟨h', gs, dr, tk', os⟩) →
    (good → ∀ (v : Value) (h' : Heap) (tk' : Nat), Grow hh h' → R hh v h' → Q v ⟨h', gs, dr, tk', os⟩) →
    wpAny (model Challenge.rw_pa0025_01.row.prog w) (ctx dp un gd fr) t Q E ⟨hh, gs, dr, tk, os⟩
theorem c_a2b (b : Array UInt8) (t : Tok) (hsz : b.size ≤ 1000) (hq2 : (a2run (octInts b)).q ≠ 1 → (a2run (octInts b)).q = 0 ∨ 4 ≤ (a2run (octInts b)).q + (a2run (octInts b)).p) :
    Says2 w mean mg mb 2 (call (.ref 131) [.bytes b t] [(Str.ofString "strict_mode", .bool false)]) Plain ((a2run (octInts b)).q ≠ 1) (fun _ v _ => ∃ t', v = .bytes (byteArr (a2run (octInts b)).out) t') := by
  unfold Says2; intros; rename_i hbad hret; walk_at "mine:in"
  w_nolog k_steps
  all_goals (try (unfold Hold; (first | ((with_reducible show wpAny _ _ (call (Value.ref 123) _ _) _ _ _); k_dflt (refine' Says.use (c_bval _ _ _ _ _ _) ?B ?F ?X ?N ?T ?hf ?hk ?d ?u ?P ?_; walk_at "mine:use2")) | ((with_reducible show wpAny _ _ (call (Value.ref 116) _ _) _ _ _); k_dflt (refine' Says.use (c_truth _ _ _ _ _) ?B ?F ?X ?N ?T ?hf ?hk ?d ?u ?P ?_; walk_at "mine:use2")) | ((with_reducible show wpAny _ _ (call (Value.ref 102) _ _) _ _ _); k_dflt (refine' Says.use (c_abuffer _ _ _ _ _ _) ?B ?F ?X ?N ?T ?hf ?hk ?d ?u ?P ?_; walk_at "mine:use2")))))
  all_goals (w_nolog k_steps)
  all_goals (try (unfold Hold; (first | ((with_reducible show wpAny _ _ (call (Value.ref 123) _ _) _ _ _); k_dflt (refine' Says.use (c_bval _ _ _ _ _ _) ?B ?F ?X ?N ?T ?hf ?hk ?d ?u ?P ?_; walk_at "mine:use2")) | ((with_reducible show wpAny _ _ (call (Value.ref 116) _ _) _ _ _); k_dflt (refine' Says.use (c_truth _ _ _ _ _) ?B ?F ?X ?N ?T ?hf ?hk ?d ?u ?P ?_; walk_at "mine:use2")) | ((with_reducible show wpAny _ _ (call (Value.ref 102) _ _) _ _ _); k_dflt (refine' Says.use (c_abuffer _ _ _ _ _ _) ?B ?F ?X ?N ?T ?hf ?hk ?d ?u ?P ?_; walk_at "mine:use2")))))
  all_goals (w_nolog k_steps)
  refine' loop_bytes (σ := A2S) (a2Led _) (a2ps _) (A2Ok (octInts b)) ⟨[], 0, 0, 0, 0, 0, _, _, _, _⟩ ?hh ?F ?N ?hk ?hp ?turn ?done
  case hh => rfl
  case F => k_asm
  case N => k_asm
  case hk => (refine List.forall_mem_cons.mpr ⟨?_, List.forall_mem_cons.mpr ⟨?_, List.forall_mem_cons.mpr ⟨?_, List.forall_mem_cons.mpr ⟨?_, List.forall_mem_cons.mpr ⟨?_, List.forall_mem_cons.mpr ⟨?_, List.forall_mem_nil _⟩⟩⟩⟩⟩⟩ <;> with_unfolding_all rfl)
  case hp => exact ⟨[], .nil, rfl, Int.le_refl _, Int.le_refl _⟩
  case turn =>
    intro c i n t' u h' tk' own hn hoff hP F' N'
    have hib : i < b.size := (Array.getElem?_eq_some_iff.mp hn).1
    have hk9 : (octInts b)[i]? = some (n.toNat : Int) := by
      unfold octInts; rw [List.getElem?_map, Array.getElem?_toList, hn]; rfl
    have hn' : (n.toNat : Int) < 256 := by have := n.toNat_lt; omega
    have hn0 : (0 : Int) ≤ n.toNat := by omega
    have inv := a2run_inv ((octInts b).take i)
    obtain ⟨out, hI, hrun, hi0, hii⟩ := id hP
    rw [hrun] at inv
    have hq0 : 0 ≤ c.q := inv.q0
    have hq3 : c.q ≤ 3 := inv.q3
    have hl0 : 0 ≤ c.l := inv.l0
    have hl64 : c.l < 64 := inv.l2
    have hp0 : 0 ≤ c.p := inv.p0
    have hpn : c.p ≤ 1000 := by have := inv.pn; simp only [List.length_take] at this; omega
    have hlen : out.length ≤ 1000 := by have := inv.len; simp only [List.length_take] at this; omega
    have hic : c.i ≤ 1000 := by omega
    clear inv hrun hii
    simp only [kstB] at F'
    generalize (n.toNat : Int) = ch at *
    dsimp only
    w_nolog k_steps
    all_goals (unfold Hold; first
      | ((rename News _ _ _ _ => nE'); (try simp only [List.push_toArray] at nE'); (refine' ks_end (A2S.mk _ _ _ _ _ _ _ _ _ _) ?eF nE' ?em ?eP ?ea ?en ?eo; (case eF => k_asm); (case em => (dsimp only [a2ps]; (refine List.forall_mem_cons.mpr ⟨?_, List.forall_mem_cons.mpr ⟨?_, List.forall_mem_cons.mpr ⟨?_, List.forall_mem_cons.mpr ⟨?_, List.forall_mem_cons.mpr ⟨?_, List.forall_mem_cons.mpr ⟨?_, List.forall_mem_nil _⟩⟩⟩⟩⟩⟩ <;> with_unfolding_all rfl))); (case en => (dsimp only [a2Led]; refine List.forall_mem_cons.mpr ⟨?_, List.forall_mem_nil _⟩; exact List.Mem.head _)); (case ea => exact rfl); (case eo => (intro p9 hp9; first | exact List.mem_append_right _ hp9 | exact List.Mem.tail _ hp9)); (case eP => first | (refine a2_w1 (by assumption) (by assumption) ?_; (intro out9; unfold a2step; dsimp only; (repeat' split) <;> first | rfl | (exfalso; omega))) | (refine a2_w2 (by assumption) (by assumption) ?_; (intro out9; unfold a2step; dsimp only; (repeat' split) <;> first | rfl | (exfalso; omega))))))
      | ((first | ((with_reducible show wpAny _ _ (call (Value.ref 123) _ _) _ _ _); k_dflt (refine' Says.use (c_bval _ _ _ _ _ _) ?B ?F ?X ?N ?T ?hf ?hk ?d ?u ?P ?_; walk_at "mine:use2")) | ((with_reducible show wpAny _ _ (call (Value.ref 116) _ _) _ _ _); k_dflt (refine' Says.use (c_truth _ _ _ _ _) ?B ?F ?X ?N ?T ?hf ?hk ?d ?u ?P ?_; walk_at "mine:use2")) | ((with_reducible show wpAny _ _ (call (Value.ref 102) _ _) _ _ _); k_dflt (refine' Says.use (c_abuffer _ _ _ _ _ _) ?B ?F ?X ?N ?T ?hf ?hk ?d ?u ?P ?_; walk_at "mine:use2"))); w_nolog k_steps; all_goals (unfold Hold; (rename News _ _ _ _ => nE'); (try simp only [List.push_toArray] at nE'); (refine' ks_end (A2S.mk _ _ _ _ _ _ _ _ _ _) ?eF nE' ?em ?eP ?ea ?en ?eo; (case eF => k_asm); (case em => (dsimp only [a2ps]; (refine List.forall_mem_cons.mpr ⟨?_, List.forall_mem_cons.mpr ⟨?_, List.forall_mem_cons.mpr ⟨?_, List.forall_mem_cons.mpr ⟨?_, List.forall_mem_cons.mpr ⟨?_, List.forall_mem_cons.mpr ⟨?_, List.forall_mem_nil _⟩⟩⟩⟩⟩⟩ <;> with_unfolding_all rfl))); (case en => (dsimp only [a2Led]; refine List.forall_mem_cons.mpr ⟨?_, List.forall_mem_nil _⟩; exact List.Mem.head _)); (case ea => exact rfl); (case eo => (intro p9 hp9; first | exact List.mem_append_right _ hp9 | exact List.Mem.tail _ hp9)); (case eP => first | (refine a2_w1 (by assumption) (by assumption) ?_; (intro out9; unfold a2step; dsimp only; (repeat' split) <;> first | rfl | (exfalso; omega))) | (refine a2_w2 (by assumption) (by assumption) ?_; (intro out9; unfold a2step; dsimp only; (repeat' split) <;> first | rfl | (exfalso; omega))))))))
  case done =>
    intro c u h' tk' hP F' N'
    have inv := a2run_inv (octInts b)
    obtain ⟨out, hI, hrun, hi0, hii⟩ := id hP
    rw [show (octInts b).take b.size = octInts b from List.take_of_length_le (by simp [octInts])] at hrun
    rw [hrun] at inv hq2 hret hbad
    have hq0 : 0 ≤ c.q := inv.q0
    have hq3 : c.q ≤ 3 := inv.q3
    have hp0 : 0 ≤ c.p := inv.p0
    have hq2 : c.q ≠ 1 → c.q = 0 ∨ 4 ≤ c.q + c.p := hq2
    have hpn : c.p ≤ 1000 := by have := inv.pn; simp only [octInts, List.length_map, Array.length_toList] at this; omega
    have hlen : out.length ≤ 1000 := by have := inv.len; simp only [octInts, List.length_map, Array.length_toList] at this; omega
    have hoct : ∀ x ∈ out, 0 ≤ x ∧ x < 256 := inv.oct
    simp only [kstB] at F'
    dsimp only
    w_nolog k_steps
    all_goals first | (exfalso; omega) | exact hret (by show c.q ≠ 1; omega) _ _ _ (Fr.keep (by k_asm)) ⟨_, rfl⟩ | exact hbad (fun h9 => h9 (by show c.q = 1; omega)) _ _ _ _ _ _ (by assumption) (by assumption)
end
end PartFn2
section PartFn3
open PySem PySem.W PyProof.Rows
set_option maxRecDepth 100000
set_option maxHeartbeats 4000000
theorem fillme3 : PySem.Challenge.rw_pa0025_01 = PySem.Challenge.rw_pa0025_01 ∧ hd.heap_39 = hd.heap_39 := by
  k_fill
  exact ⟨rfl, rfl⟩
local macro_rules | `(tactic| walk_at "call ref") => `(tactic| (k_here; refine hold ?_))
abbrev B64L : List UInt8 := [65, 66, 67, 68, 69, 70, 71, 72, 73, 74, 75, 76, 77, 78, 79, 80, 81, 82, 83, 84, 85, 86, 87, 88, 89, 90, 97, 98, 99, 100, 101, 102, 103, 104, 105, 106, 107, 108, 109, 110, 111, 112, 113, 114, 115, 116, 117, 118, 119, 120, 121, 122, 48, 49, 50, 51, 52, 53, 54, 55, 56, 57, 43, 47]
def b64ch (i : Int) : Int := ((B64L.getD i.toNat 0).toNat : Int)
theorem b64_item {prog : Program} {w : World} {A : Around} {E : Value → Shared → Prop} {s : Shared} {Q : Value → Shared → Prop} {i : Int} {t ui : Tok} {value slice : Expr} (h : Q (.int (b64ch (Builtin.bitAnd i 63)) s.toks) { s with toks := s.toks + 1 })
    (hs : subscripted slice false (.bytes B64L.toArray t) (.int (Builtin.bitAnd i 63) ui) = operate [.bytes B64L.toArray t, .int (Builtin.bitAnd i 63) ui] (getItem (.bytes B64L.toArray t) (.int (Builtin.bitAnd i 63) ui)))
    (ht : ∀ r, letTemporaryGo value (.bytes B64L.toArray t) r = pure ()) : wpAny (model prog w) A (subscriptTail value slice (.bytes B64L.toArray t) (.int (Builtin.bitAnd i 63) ui)) Q E s := by
  have hr := bitAnd_range i (y := 63) (by decide)
  refine KBy.item_N (by decide) hr.1 ?_ h hs ht
  show Builtin.bitAnd i 63 < 64
  omega
local macro_rules | `(tactic| walk_at "subscriptTail") => `(tactic| (k_here; (with_reducible show wpAny _ _ (subscriptTail _ _ (Value.bytes _ _) (Value.int (Builtin.bitAnd _ _) _)) _ _ _); k_dflt (refine' b64_item ?_ ?hs ?ht; (case hs => with_unfolding_all rfl); (case ht => (intro _; with_unfolding_all rfl)); k_whole)))
local macro_rules | `(tactic| walk_at "call builtin:list.append") => `(tactic| (k_here; (with_reducible show wpAny _ _ (call (Value.builtin _) [Value.ref _, _]) _ _ _); k_dflt (refine' append_K ?k1 ?k2 ?k3 ?_ ?z; (case k1 => k_asm); (case k2 => k_asm); (case k3 => k_upd); (case z => first | size_fits | (simp only [Array.size_push, List.size_toArray]; (have hL9 := IntsAre.length (by assumption)); rw [sizeLine_eq]; omega)); k_whole); intro h' F' N'; (try k_sweep)))
/-- the writing's state: signs so far, bits left, the bits -/
structure B2 where
  out : List Int
  b : Int
  c : Int
def b2step (s : B2) (n : Int) : B2 :=
  if s.b = 0 then ⟨s.out ++ [b64ch (Builtin.bitAnd ((Builtin.bitAnd (Builtin.bitOr (s.c * 2 ^ Int.toNat 8) n) 65535).fdiv (2 ^ (0 + 8 - 6 : Int).toNat)) 63)], 0 + 8 - 6, Builtin.bitAnd (Builtin.bitOr (s.c * 2 ^ Int.toNat 8) n) 65535⟩
  else if s.b = 2 then ⟨s.out ++ [b64ch (Builtin.bitAnd ((Builtin.bitAnd (Builtin.bitOr (s.c * 2 ^ Int.toNat 8) n) 65535).fdiv (2 ^ (2 + 8 - 6 : Int).toNat)) 63)], 2 + 8 - 6, Builtin.bitAnd (Builtin.bitOr (s.c * 2 ^ Int.toNat 8) n) 65535⟩
  else ⟨s.out ++ [b64ch (Builtin.bitAnd ((Builtin.bitAnd (Builtin.bitOr (s.c * 2 ^ Int.toNat 8) n) 65535).fdiv (2 ^ (4 + 8 - 6 : Int).toNat)) 63)] ++ [b64ch (Builtin.bitAnd ((Builtin.bitAnd (Builtin.bitOr (s.c * 2 ^ Int.toNat 8) n) 65535).fdiv (2 ^ (4 + 8 - 6 - 6 : Int).toNat)) 63)], 4 + 8 - 6 - 6, Builtin.bitAnd (Builtin.bitOr (s.c * 2 ^ Int.toNat 8) n) 65535⟩
def b2run (ks : List Int) : B2 := ks.foldl b2step ⟨[], 0, 0⟩
structure B2S where
  vs : List Value
  n : Nat
  b : Int
  c : Int
  tb : Tok
  tc : Tok
abbrev b2Led (oa : Addr) (c : B2S) : List (Addr × Obj) := [(oa, W.listOf c.vs.toArray c.n)]
abbrev b2ps (oa : Addr) (c : B2S) : List (Str × Value) := [(Str.ofString "out", .ref oa), (Str.ofString "newline", .bool false), (Str.ofString "leftbits", .int c.b c.tb), (Str.ofString "leftchar", .int c.c c.tc)]
def B2Ok (ks : List Int) (i : Nat) (c : B2S) : Prop := ∃ out, IntsAre c.vs out ∧ b2run (ks.take i) = ⟨out, c.b, c.c⟩
structure B2Inv (s : B2) (n : Nat) : Prop where
  b : s.b = 0 ∨ s.b = 2 ∨ s.b = 4
  c0 : 0 ≤ s.c
  c1 : s.c < 65536
  len : s.out.length ≤ 2 * n
  oct : ∀ x ∈ s.out, 0 ≤ x ∧ x < 256
theorem b64ch_range (i : Int) : 0 ≤ b64ch i ∧ b64ch i < 256 := by
  unfold b64ch
  have := (B64L.getD i.toNat 0).toNat_lt
  omega
theorem b2_step_inv {s : B2} {n : Nat} (h : B2Inv s n) (k : Int) : B2Inv (b2step s k) (n + 1) := by
  obtain ⟨hb, c0, c1, len, oct⟩ := h
  have hr := bitAnd_range (Builtin.bitOr (s.c * 2 ^ Int.toNat 8) k) (y := 65535) (by decide)
  have app : ∀ (l : List Int), (∀ y ∈ l, 0 ≤ y ∧ y < 256) → ∀ i, ∀ y ∈ l ++ [b64ch i], 0 ≤ y ∧ y < 256 := fun l hl i y hy => by
    rcases List.mem_append.mp hy with h | h
    · exact hl y h
    · rw [List.mem_singleton.mp h]; exact b64ch_range i
  unfold b2step
  split
  · exact ⟨.inr (.inl rfl), hr.1, Int.lt_of_le_of_lt hr.2 (by decide), by simp; omega, app _ oct _⟩
  split
  · exact ⟨.inr (.inr rfl), hr.1, Int.lt_of_le_of_lt hr.2 (by decide), by simp; omega, app _ oct _⟩
  · exact ⟨.inl rfl, hr.1, Int.lt_of_le_of_lt hr.2 (by decide), by simp; omega, app _ (app _ oct _) _⟩
theorem b2run_snoc (ks : List Int) (c : Int) : b2run (ks ++ [c]) = b2step (b2run ks) c := by simp [b2run]
theorem b2run_inv (ks : List Int) : B2Inv (b2run ks) ks.length := by
  have key : ∀ n, ∀ ks : List Int, ks.length = n → B2Inv (b2run ks) n := by
    intro n
    induction n with
    | zero => intro ks h; rw [List.length_eq_zero_iff.mp h]; exact ⟨.inl rfl, by decide, by decide, by decide, fun x hx => by cases hx⟩
    | succ n ih =>
      intro ks h
      obtain ⟨l, c, rfl⟩ : ∃ l c, ks = l ++ [c] := ⟨ks.dropLast, ks.getLast (by intro e; rw [e] at h; simp at h), (List.dropLast_concat_getLast _).symm⟩
      rw [b2run_snoc]
      exact b2_step_inv (ih l (by simpa using h)) c
  exact key _ ks rfl
theorem b2_w1 {ks : List Int} {i n' : Nat} {c : B2S} {ch b' c' x : Int} {tx tb tc : Tok} (h : B2Ok ks i c) (hn : ks[i]? = some ch) (e : ∀ out, b2step ⟨out, c.b, c.c⟩ ch = ⟨out ++ [x], b', c'⟩) : B2Ok ks (i + 1) ⟨c.vs ++ [.int x tx], n', b', c', tb, tc⟩ := by
  obtain ⟨out, hI, hr⟩ := h
  refine ⟨out ++ [x], ints_snoc hI x tx, ?_⟩
  rw [List.take_add_one, hn, Option.toList_some, b2run_snoc, hr]
  exact e out
theorem b2_w2 {ks : List Int} {i n' : Nat} {c : B2S} {ch b' c' x y : Int} {tx ty tb tc : Tok} (h : B2Ok ks i c) (hn : ks[i]? = some ch) (e : ∀ out, b2step ⟨out, c.b, c.c⟩ ch = ⟨out ++ [x] ++ [y], b', c'⟩) : B2Ok ks (i + 1) ⟨c.vs ++ [.int x tx] ++ [.int y ty], n', b', c', tb, tc⟩ := by
  obtain ⟨out, hI, hr⟩ := h
  refine ⟨out ++ [x] ++ [y], ints_snoc (ints_snoc hI x tx) y ty, ?_⟩
  rw [List.take_add_one, hn, Option.toList_some, b2run_snoc, hr]
  exact e out
local macro_rules | `(tactic| walk_at "InvEndN") => `(tactic| (refine hold ?_))
section
variable (w : World) (mean : ExcName → Option Value) (mg mb : Str → Option Value)
theorem c_b2a (b : Array UInt8) (t : Tok) (hsz : b.size ≤ 1000) (hb0 : (b2run (octInts b)).b = 0) : Says w mean mg mb 2 (call (.ref 139) [.bytes b t] [(Str.ofString "newline", .bool false)]) Plain (fun _ v _ => ∃ t', v = .bytes (byteArr (b2run (octInts b)).out) t') := by
  unfold Says; intros; rename_i hret; walk_at "mine:in"
  w_nolog k_steps
  all_goals (try (unfold Hold; (first | ((with_reducible show wpAny _ _ (call (Value.ref 116) _ _) _ _ _); k_dflt (refine' Says.use (c_truth _ _ _ _ _) ?B ?F ?X ?N ?T ?hf ?hk ?d ?u ?P ?_; walk_at "mine:use2")) | ((with_reducible show wpAny _ _ (call (Value.ref 109) _ _) _ _ _); k_dflt (refine' Says.use (c_buffer _ _ _ _ _ _) ?B ?F ?X ?N ?T ?hf ?hk ?d ?u ?P ?_; walk_at "mine:use2")))))
  all_goals (w_nolog k_steps)
  all_goals (try (unfold Hold; (first | ((with_reducible show wpAny _ _ (call (Value.ref 116) _ _) _ _ _); k_dflt (refine' Says.use (c_truth _ _ _ _ _) ?B ?F ?X ?N ?T ?hf ?hk ?d ?u ?P ?_; walk_at "mine:use2")) | ((with_reducible show wpAny _ _ (call (Value.ref 109) _ _) _ _ _); k_dflt (refine' Says.use (c_buffer _ _ _ _ _ _) ?B ?F ?X ?N ?T ?hf ?hk ?d ?u ?P ?_; walk_at "mine:use2")))))
  all_goals (w_nolog k_steps)
  refine' loop_bytes (σ := B2S) (b2Led _) (b2ps _) (B2Ok (octInts b)) ⟨[], 0, 0, 0, _, _⟩ ?hh ?F ?N ?hk ?hp ?turn ?done
  case hh => rfl
  case F => k_asm
  case N => k_asm
  case hk => (refine List.forall_mem_cons.mpr ⟨?_, List.forall_mem_cons.mpr ⟨?_, List.forall_mem_cons.mpr ⟨?_, List.forall_mem_cons.mpr ⟨?_, List.forall_mem_nil _⟩⟩⟩⟩ <;> with_unfolding_all rfl)
  case hp => exact ⟨[], .nil, rfl⟩
  case turn =>
    intro c i n t' u h' tk' own hn hoff hP F' N'
    have hib : i < b.size := (Array.getElem?_eq_some_iff.mp hn).1
    have hk9 : (octInts b)[i]? = some (n.toNat : Int) := by
      unfold octInts; rw [List.getElem?_map, Array.getElem?_toList, hn]; rfl
    have hn' : (n.toNat : Int) < 256 := by have := n.toNat_lt; omega
    have hn0 : (0 : Int) ≤ n.toNat := by omega
    have inv := b2run_inv ((octInts b).take i)
    obtain ⟨out, hI, hrun⟩ := id hP
    rw [hrun] at inv
    have hb : c.b = 0 ∨ c.b = 2 ∨ c.b = 4 := inv.b
    have hc0 : 0 ≤ c.c := inv.c0
    have hc1 : c.c < 65536 := inv.c1
    have hlen : out.length ≤ 2000 := by have := inv.len; simp only [List.length_take] at this; omega
    clear inv hrun
    simp only [kstB] at F'
    generalize (n.toNat : Int) = ch at *
    dsimp only
    rcases hb with hb | hb | hb <;> rw [hb] at F'
    all_goals (w_nolog k_steps)
    all_goals (unfold Hold; (rename News _ _ _ _ => nE'); (try simp only [List.push_toArray] at nE'); (refine' ks_end (B2S.mk _ _ _ _ _ _) ?eF nE' ?em ?eP ?ea ?en ?eo; (case eF => k_asm); (case em => (dsimp only [b2ps]; (refine List.forall_mem_cons.mpr ⟨?_, List.forall_mem_cons.mpr ⟨?_, List.forall_mem_cons.mpr ⟨?_, List.forall_mem_cons.mpr ⟨?_, List.forall_mem_nil _⟩⟩⟩⟩ <;> with_unfolding_all rfl))); (case en => (dsimp only [b2Led]; refine List.forall_mem_cons.mpr ⟨?_, List.forall_mem_nil _⟩; exact List.Mem.head _)); (case ea => exact rfl); (case eo => (intro p9 hp9; first | exact List.mem_append_right _ hp9 | exact List.Mem.tail _ hp9)); (case eP => first | (refine b2_w1 (by assumption) (by assumption) ?_; (intro out9; unfold b2step; dsimp only; (repeat' split) <;> first | rfl | (exfalso; omega))) | (refine b2_w2 (by assumption) (by assumption) ?_; (intro out9; unfold b2step; dsimp only; (repeat' split) <;> first | rfl | (exfalso; omega))))))
  case done =>
    intro c u h' tk' hP F' N'
    have inv := b2run_inv (octInts b)
    obtain ⟨out, hI, hrun⟩ := id hP
    rw [show (octInts b).take b.size = octInts b from List.take_of_length_le (by simp [octInts])] at hrun
    rw [hrun] at inv hb0 hret
    have hb0 : c.b = 0 := hb0
    have hlen : out.length ≤ 2000 := by have := inv.len; simp only [octInts, List.length_map, Array.length_toList] at this; omega
    have hoct : ∀ x ∈ out, 0 ≤ x ∧ x < 256 := inv.oct
    simp only [kstB] at F'
    rw [hb0] at F'
    dsimp only
    w_nolog k_steps
    all_goals exact hret _ _ _ (Fr.keep (by k_asm)) ⟨_, rfl⟩
end
end PartFn3
section PartFn4
open PySem PySem.W PyProof.Rows
set_option maxRecDepth 100000
set_option maxHeartbeats 4000000
theorem fillme4 : PySem.Challenge.rw_pa0025_01 = PySem.Challenge.rw_pa0025_01 ∧ hd.heap_39 = hd.heap_39 := by
  k_fill
  exact ⟨rfl, rfl⟩
section
variable {w : World} {mean : ExcName → Option Value} {mg mb : Str → Option Value} {t : Sem Value} {k : Nat} {P : Heap → Prop} {good : Prop} {R : Heap → Value → Heap → Prop}
theorem Says2.use {dp un : Nat} {gd : Option (List Code)} {env : Env} {outer : List Env} {A₀ : Around} {base h₀ : Heap} {L : Addr} {m : Str → Option Value} {news : List (Addr × Obj)} {s : Shared} {Q E : Value → Shared → Prop}
    (C : Says2 w mean mg mb k t P good R) (B : Below A₀ base outer h₀) (F : Fr h₀ L s.heap m) (X : (hd.heap_39 w.params).In h₀) (N : News h₀ L s.heap news) (T : TopAt mean mg mb h₀)
    (hf : env.frame = some L) (hke : env.scope.kind = .function) (hdp : dp + k < recursionLimit) (hun : un + 8 * k < cLine) (hP : P s.heap)
    (bad : ¬ good → ∀ (e : Addr) (h' : Heap) (tk' : Nat) (t' : Addr) (vs : List Value) (led : List (Addr × Obj)), RaisedK base (env :: outer) e (.ref 92) t' vs led h' → s.heap.UpToSlots h' → E (.ref e) { s with heap := h', toks := tk' })
    (ret : good → ∀ (v : Value) (h' : Heap) (tk' : Nat), Fr h₀ L h' m → News h₀ L h' news → Grow s.heap h' → R s.heap v h' → Q v { s with heap := h', toks := tk' }) :
    wpAny (model Challenge.rw_pa0025_01.row.prog w) (ctx dp un gd (env :: outer)) t Q E s := by
  have B1 := pushX B F hf hke
  exact C dp un gd (env :: outer) base s.heap _ _ _ _ Q E ⟨rfl, B1.stays, B1.frames⟩ (X.keeps F.keep) (T.keeps F.keep) hdp hun hP (fun g e h' tk' t' vs led R U => bad g e h' tk' t' vs led R U) (fun g v h' tk' gr r => ret g v h' tk' (F.keeps gr) (N.grown gr) gr r)
end
local macro_rules | `(tactic| walk_at "call ref") => `(tactic| (k_here; refine hold ?_))
local macro_rules | `(tactic| walk_at "getMethod bytes") => `(tactic| (k_here; (with_reducible refine meth_translate ?_)))
local macro_rules | `(tactic| walk_at "getMethod type:bytes") => `(tactic| (k_here; (with_reducible refine meth_maketrans (by k_asm) ?_)))
local macro_rules | `(tactic| walk_at "call builtin:bytes.maketrans") => `(tactic| (k_here; (refine call_maketrans (by first | assumption | (simp only [List.size_toArray, List.length_cons, List.length_nil]; omega)) ?_); intro _ _))
local macro_rules | `(tactic| walk_at "call builtin:bytes.translate") => `(tactic| (k_here; (refine call_translate (transTab_size _ _) (by assumption) ?_); intro _ _))
section
variable (w : World) (mean : ExcName → Option Value) (mg mb : Str → Option Value)
theorem c_b64e (b a : Array UInt8) (t u : Tok) (hsz : b.size ≤ 1000) (hb0 : (b2run (octInts b)).b = 0) (ha : a.size = 2) : Says w mean mg mb 3 (call (.ref 147) [.bytes b t, .bytes a u]) Plain (fun _ v _ => ∃ t', v = .bytes ((byteArr (b2run (octInts b)).out).map fun c => (transTab #[43, 47] a).getD c.toNat c) t') := by
  have hsz2 : (byteArr (b2run (octInts b)).out).size ≤ 16777216 := by
    have := (b2run_inv (octInts b)).len
    have hl : (octInts b).length = b.size := by simp [octInts]
    rw [byteArr_size]; omega
  unfold Says; intros; rename_i hret; walk_at "mine:in"
  w_nolog k_steps
  all_goals (try (unfold Hold; (first | ((with_reducible show wpAny _ _ (call (Value.ref 139) _ _) _ _ _); k_dflt (refine' Says.use (c_b2a _ _ _ _ _ _ ?h1 ?h2) ?B ?F ?X ?N ?T ?hf ?hk ?d ?u ?P ?_; (case h1 => assumption); (case h2 => assumption); walk_at "mine:use2")) | ((with_reducible show wpAny _ _ (call (Value.ref 82) _ _) _ _ _); k_dflt (refine' Says.use (c_bfdd _ _ _ _ _ _ ?h1 ?h2) ?B ?F ?X ?N ?T ?hf ?hk ?d ?u ?P ?_; (case h1 => assumption); (case h2 => assumption); walk_at "mine:use2")) | ((with_reducible show wpAny _ _ (call (Value.ref 131) _ _) _ _ _); k_dflt (refine' Says2.use (c_a2b _ _ _ _ _ _ ?h1 ?h2) ?B ?F ?X ?N ?T ?hf ?hk ?d ?u ?P ?_ ?_; (case h1 => assumption); (case h2 => assumption); walk_at "mine:use"; (case P => trivial))))))
  all_goals (w_nolog k_steps)
  all_goals first | exact hret _ _ _ (Fr.keep (by k_asm)) ⟨_, rfl⟩ | (exfalso; omega)
/-- a text's octets, the two signs turned to + and / -/
abbrev turned (x y : Str) : Array UInt8 := (asciiOf x).map fun c => (transTab (asciiOf y) #[43, 47]).getD c.toNat c
theorem c_b64d (x y : Str) (t u : Tok) (hx : ∀ c ∈ x.cps, c < 128) (hlx : x.length ≤ 1000) (hy : ∀ c ∈ y.cps, c < 128) (hly : y.length = 2)
    (hq2 : (a2run (octInts (turned x y))).q ≠ 1 → (a2run (octInts (turned x y))).q = 0 ∨ 4 ≤ (a2run (octInts (turned x y))).q + (a2run (octInts (turned x y))).p) :
    Says2 w mean mg mb 3 (call (.ref 155) [.str x t, .str y u]) Plain ((a2run (octInts (turned x y))).q ≠ 1) (fun _ v _ => ∃ t', v = .bytes (byteArr (a2run (octInts (turned x y))).out) t') := by
  have hx2 : x.length ≤ 16777216 := by omega
  have hy2 : y.length ≤ 16777216 := by omega
  have hay : (asciiOf y).size = 2 := by simp only [asciiOf, Array.size_map]; exact hly
  have hax : (asciiOf x).size ≤ 16777216 := by simp only [asciiOf, Array.size_map]; exact hx2
  have htr : (turned x y).size ≤ 1000 := by simp only [turned, asciiOf, Array.size_map]; exact hlx
  unfold Says2; intros; rename_i hbad hret; walk_at "mine:in"
  w_nolog k_steps
  all_goals (try (unfold Hold; (first | ((with_reducible show wpAny _ _ (call (Value.ref 139) _ _) _ _ _); k_dflt (refine' Says.use (c_b2a _ _ _ _ _ _ ?h1 ?h2) ?B ?F ?X ?N ?T ?hf ?hk ?d ?u ?P ?_; (case h1 => assumption); (case h2 => assumption); walk_at "mine:use2")) | ((with_reducible show wpAny _ _ (call (Value.ref 82) _ _) _ _ _); k_dflt (refine' Says.use (c_bfdd _ _ _ _ _ _ ?h1 ?h2) ?B ?F ?X ?N ?T ?hf ?hk ?d ?u ?P ?_; (case h1 => assumption); (case h2 => assumption); walk_at "mine:use2")) | ((with_reducible show wpAny _ _ (call (Value.ref 131) _ _) _ _ _); k_dflt (refine' Says2.use (c_a2b _ _ _ _ _ _ ?h1 ?h2) ?B ?F ?X ?N ?T ?hf ?hk ?d ?u ?P ?_ ?_; (case h1 => assumption); (case h2 => assumption); walk_at "mine:use"; (case P => trivial))))))
  all_goals (w_nolog k_steps)
  all_goals (try (unfold Hold; (first | ((with_reducible show wpAny _ _ (call (Value.ref 139) _ _) _ _ _); k_dflt (refine' Says.use (c_b2a _ _ _ _ _ _ ?h1 ?h2) ?B ?F ?X ?N ?T ?hf ?hk ?d ?u ?P ?_; (case h1 => assumption); (case h2 => assumption); walk_at "mine:use2")) | ((with_reducible show wpAny _ _ (call (Value.ref 82) _ _) _ _ _); k_dflt (refine' Says.use (c_bfdd _ _ _ _ _ _ ?h1 ?h2) ?B ?F ?X ?N ?T ?hf ?hk ?d ?u ?P ?_; (case h1 => assumption); (case h2 => assumption); walk_at "mine:use2")) | ((with_reducible show wpAny _ _ (call (Value.ref 131) _ _) _ _ _); k_dflt (refine' Says2.use (c_a2b _ _ _ _ _ _ ?h1 ?h2) ?B ?F ?X ?N ?T ?hf ?hk ?d ?u ?P ?_ ?_; (case h1 => assumption); (case h2 => assumption); walk_at "mine:use"; (case P => trivial))))))
  all_goals (w_nolog k_steps)
  all_goals (try (unfold Hold; (first | ((with_reducible show wpAny _ _ (call (Value.ref 139) _ _) _ _ _); k_dflt (refine' Says.use (c_b2a _ _ _ _ _ _ ?h1 ?h2) ?B ?F ?X ?N ?T ?hf ?hk ?d ?u ?P ?_; (case h1 => assumption); (case h2 => assumption); walk_at "mine:use2")) | ((with_reducible show wpAny _ _ (call (Value.ref 82) _ _) _ _ _); k_dflt (refine' Says.use (c_bfdd _ _ _ _ _ _ ?h1 ?h2) ?B ?F ?X ?N ?T ?hf ?hk ?d ?u ?P ?_; (case h1 => assumption); (case h2 => assumption); walk_at "mine:use2")) | ((with_reducible show wpAny _ _ (call (Value.ref 131) _ _) _ _ _); k_dflt (refine' Says2.use (c_a2b _ _ _ _ _ _ ?h1 ?h2) ?B ?F ?X ?N ?T ?hf ?hk ?d ?u ?P ?_ ?_; (case h1 => assumption); (case h2 => assumption); walk_at "mine:use"; (case P => trivial))))))
  all_goals (w_nolog k_steps)
  all_goals first | (exfalso; omega) | exact hret (by assumption) _ _ _ (Fr.keep (by k_asm)) (by assumption) | exact hbad (by assumption) _ _ _ _ _ _ (by assumption) (by assumption)
end
end PartFn4
section PartFn5
open PySem PySem.W PyProof.Rows
set_option maxRecDepth 100000
set_option maxHeartbeats 4000000
theorem fillme5 : PySem.Challenge.rw_pa0025_01 = PySem.Challenge.rw_pa0025_01 ∧ hd.heap_39 = hd.heap_39 := by
  k_fill
  exact ⟨rfl, rfl⟩
theorem rep_len (k : Int) : (List.replicate (k.fmod 4).toNat [(0 : Int)]).flatten.length ≤ 100 := by
  have h1 : k.fmod 4 < 4 := Int.fmod_lt_of_pos _ (by decide)
  simp only [List.length_flatten, List.map_replicate, List.length_cons, List.length_nil, List.sum_replicate_nat]
  omega
theorem z_add {a b : List Int} (ha : a.length ≤ 200) (hb : b.length ≤ 200) : a.length + b.length ≤ sizeLine := by rw [sizeLine_eq]; omega
theorem len_app {a b : List Int} (ha : a.length ≤ 100) (hb : b.length ≤ 100) : (a ++ b).length ≤ 200 := by rw [List.length_append]; omega
theorem len_map12 {f : Int → Int} {ns : List Int} : (List.map f (List.take 12 ns)).length ≤ 200 := by simp; omega
local macro_rules | `(tactic| walk_at "binaryOp Add ref ref") => `(tactic| (k_here; refine hold ?_))
/-- one figure of a number -/
def figOf (x : Int) : Int := if x.fmod 3 = 0 then 62 else if x.fmod 3 = 1 then 63 else (x.fdiv 3).fmod 64
def figsOf (ns : List Int) : List Int := [63, 62, 63, 62, 62, 63, 63, 5] ++ List.replicate ((-((ns.take 12).length : Int)).fmod 4).toNat 0 ++ (ns.take 12).map figOf
theorem figs_eq (ns : List Int) : [63, 62, 63, 62, 62, 63, 63, 5] ++ (List.replicate ((-((List.map (fun k' : Int => if k'.fmod 3 = 0 then (62 : Int) else if k'.fmod 3 = 1 then 63 else if k'.fmod 3 = 2 then (k'.fdiv 3).fmod 64 else k') (List.take 12 ns)).length : Int)).fmod 4).toNat [(0 : Int)]).flatten ++ List.map (fun k' : Int => if k'.fmod 3 = 0 then (62 : Int) else if k'.fmod 3 = 1 then 63 else if k'.fmod 3 = 2 then (k'.fdiv 3).fmod 64 else k') (List.take 12 ns) = figsOf ns := by
  have e : (fun k' : Int => if k'.fmod 3 = 0 then (62 : Int) else if k'.fmod 3 = 1 then 63 else if k'.fmod 3 = 2 then (k'.fdiv 3).fmod 64 else k') = figOf := by
    funext x
    unfold figOf
    have h1 : x.fmod 3 < 3 := Int.fmod_lt_of_pos _ (by decide)
    have h2 : 0 ≤ x.fmod 3 := Int.fmod_nonneg_of_pos _ (by decide)
    (repeat' split) <;> first | rfl | omega
  rw [e, List.length_map]
  unfold figsOf
  congr 2
  simp
theorem figs_are {us : List Value} {ns : List Int} (h : IntsAre us ([63, 62, 63, 62, 62, 63, 63, 5] ++ (List.replicate ((-((List.map (fun k' : Int => if k'.fmod 3 = 0 then (62 : Int) else if k'.fmod 3 = 1 then 63 else if k'.fmod 3 = 2 then (k'.fdiv 3).fmod 64 else k') (List.take 12 ns)).length : Int)).fmod 4).toNat [(0 : Int)]).flatten ++ List.map (fun k' : Int => if k'.fmod 3 = 0 then (62 : Int) else if k'.fmod 3 = 1 then 63 else if k'.fmod 3 = 2 then (k'.fdiv 3).fmod 64 else k') (List.take 12 ns))) : IntsAre us (figsOf ns) := figs_eq ns ▸ h
/-- a new list of ints -/
def NewInts (ns : List Int) (h : Heap) (v : Value) (h' : Heap) : Prop := ∃ a vs n, v = .ref a ∧ h'.get? a = some (W.listOf vs.toArray n) ∧ IntsAre vs ns ∧ h.get? a = none
theorem isList_of {h : Heap} {a : Addr} {its : Array Value} {n : Nat} (e : h.get? a = some (W.listOf its n)) : h.IsList a its := ⟨_, e, rfl, _, rfl⟩
/-- what a call has made goes onto the ledger -/
theorem news_add {h₀ h h' : Heap} {L a : Addr} {m : Str → Option Value} {news : List (Addr × Obj)} {o : Obj} (F : Fr h₀ L h m) (N : News h₀ L h' news) (e : h'.get? a = some o) (hn : h.get? a = none) : News h₀ L h' ((a, o) :: news) := by
  intro p hp
  rcases List.mem_cons.mp hp with rfl | hp
  · refine ⟨e, fun e2 => ?_, ?_⟩
    · obtain ⟨o', es, ep, e3, _⟩ := F.ns
      have e2 : a = L := e2
      rw [e2, e3] at hn; cases hn
    · cases e4 : h₀.get? a with
      | none => rfl
      | some o' => have := F.keep a o' e4; rw [hn] at this; cases this
  · exact N p hp
section
variable (w : World) (mean : ExcName → Option Value) (mg mb : Str → Option Value)
theorem c_figs (l : Addr) (vs : List Value) (ns : List Int) (hi : IntsAre vs ns) (hl : ns.length ≤ 63) : Says w mean mg mb 2 (call (.ref 160) [.ref l]) (fun h => h.IsList l vs.toArray) (NewInts (figsOf ns)) := by
  unfold Says; intros; rename_i hret; walk_at "mine:in"
  w_nolog k_steps
  all_goals (try (unfold Hold; ((with_reducible show wpAny _ _ (binaryOp _ (Value.ref _) (Value.ref _)) _ _ _); k_dflt (refine' kmk_add_ints ?F ?N ?a ?b ?i ?j ?_ ?z; (case F => k_asm); (case N => k_asm); (case a => kmk_list); (case b => kmk_list); (case i => first | assumption | (repeat' constructor)); (case j => assumption); (case z => first | exact z_add (by decide) (Nat.le_trans (rep_len _) (by decide)) | exact z_add (len_app (by decide) (rep_len _)) len_map12); k_whole); intro D9 us9 h9 F9 N9 l9 i9; (try k_lt l9))))
  all_goals (w_nolog k_steps)
  all_goals (try (unfold Hold; ((with_reducible show wpAny _ _ (binaryOp _ (Value.ref _) (Value.ref _)) _ _ _); k_dflt (refine' kmk_add_ints ?F ?N ?a ?b ?i ?j ?_ ?z; (case F => k_asm); (case N => k_asm); (case a => kmk_list); (case b => kmk_list); (case i => first | assumption | (repeat' constructor)); (case j => assumption); (case z => first | exact z_add (by decide) (Nat.le_trans (rep_len _) (by decide)) | exact z_add (len_app (by decide) (rep_len _)) len_map12); k_whole); intro D9 us9 h9 F9 N9 l9 i9; (try k_lt l9))))
  all_goals (w_nolog k_steps)
  all_goals (rename News _ _ _ _ => N9; rename IntsAre _ _ => i9; exact hret _ _ _ (Fr.keep (by k_asm)) ⟨_, _, _, rfl, (N9 _ (.head _)).1, figs_are i9, (N9 _ (.head _)).2.2⟩)
end
end PartFn5
section PartComp
open PySem PySem.W PyProof.Rows
set_option maxRecDepth 100000
set_option maxHeartbeats 4000000
section
variable {prog : Program} {w : World} {A : Around} {h₀ : Heap} {L : Addr} {m : Str → Option Value} {env : Env} {elt : Expr} {x : Str} {scope : Scope} {cl : List (Str × Addr)} {s : Shared} {S : List (Addr × Obj) → Prop} {P : Nat → Value → Prop} {Fin : List Value → List (Addr × Obj) → Prop} {news : List (Addr × Obj)}
/-- the end of an element: its value is told by G, nothing else has changed -/
def ElEnd (news : List (Addr × Obj)) (G : Value → Prop) (y : Value) (news' : List (Addr × Obj)) : Prop := news' = news ∧ G y
theorem comp_rest {n : Nat} (G : Nat → Value → Prop)
    (turn : ∀ i v I oI C oC D m₂ ys h tk (E' : Value → Shared → Prop), i < n → P i v → LCg.NsObj oC m₂ → m₂ x = some v → Fr h₀ L h m → News h₀ L h ((I, oI) :: (C, oC) :: (D, LCg.lst ys) :: news) → LCg.Off3 I C D news → ((@Ne Nat I C) ∧ (@Ne Nat I D) ∧ (@Ne Nat C D)) →
      wpAny (model prog w) A (eval elt (compEnvC scope cl C env)) (LCg.CompEnd h₀ L m { s with heap := h, toks := tk } I oI C oC D (LCg.lst ys) S (ElEnd news (G i))) E' { s with heap := h, toks := tk })
    (fin : ∀ ys : List Value, ys.length = n → (∀ i y, ys[i]? = some y → G i y) → Fin ys news) : LCg.CompRest prog w A h₀ L m env elt x scope cl s S P Fin n 0 [] news := by
  have key : ∀ (j i : Nat) (ys : List Value), i + j = n → ys.length = i → (∀ i y, ys[i]? = some y → G i y) → LCg.CompRest prog w A h₀ L m env elt x scope cl s S P Fin j i ys news := by
    intro j
    induction j with
    | zero =>
      intro i ys hi hl hy
      exact LCg.CompRest.zero (fin ys (by omega) hy)
    | succ j ih =>
      intro i ys hi hl hy
      unfold LCg.CompRest
      intro v I oI C oC D m₂ h tk E' hP hC hx F N off ne
      refine wpAny_mono (turn i v I oI C oC D m₂ ys h tk E' (by omega) hP hC hx F N off ne) (fun y s' hend => ?_) fun _ _ e => e
      obtain ⟨h', tk', news', e1, F', N', off', hS, rfl, hG⟩ := hend
      refine ⟨h', tk', _, e1, F', N', off', hS, ih (i + 1) (ys ++ [y]) (by omega) (by simp [hl]) ?_⟩
      intro k z hz
      rcases Nat.lt_or_ge k ys.length with hk | hk
      · rw [List.getElem?_append_left hk] at hz
        exact hy k z hz
      · rw [List.getElem?_append_right hk] at hz
        have : k - ys.length = 0 := by
          rcases Nat.eq_zero_or_pos (k - ys.length) with h | h
          · exact h
          · rw [List.getElem?_eq_none (by simp; omega)] at hz; cases hz
        rw [this] at hz
        simp at hz
        subst hz
        have hki : k = i := by omega
        rw [hki]; exact hG
  exact key n 0 [] (by omega) rfl (fun i y h => by simp at h)
end
end PartComp
section PartFn6
open PySem PySem.W PyProof.Rows
set_option maxRecDepth 100000
set_option maxHeartbeats 4000000
theorem fillme6 : PySem.Challenge.rw_pa0025_01 = PySem.Challenge.rw_pa0025_01 ∧ hd.heap_39 = hd.heap_39 := by
  k_fill
  exact ⟨rfl, rfl⟩
local macro_rules | `(tactic| walk_at "eval ListComp") => `(tactic| (k_here; k_dflt (refine LCg.ListComp_U (F₀ := by k_asm) (by with_unfolding_all rfl) (by decide) (by rfl) (by decide) (by rfl) ?_)))
local macro_rules | `(tactic| walk_at "CompSrc") => `(tactic| (k_here; k_dflt (refine' LCg.CompSrc.base ?a ?b ?c ?d ?e ?_; (case a => exact rfl); (case b => k_asm); (case c => k_asm); (case d => assumption); (case e => assumption)); intro g9))
def dotRow (x : Str) : Str := if (Txt.slice x none (some 1) == Str.ofString ".") = true then Str.ofString "." ++ x else x
theorem strs_at : ∀ {vs : List Value} {xs : List Str}, StrsAre vs xs → ∀ {i : Nat} {v : Value}, vs[i]? = some v → ∃ x t, xs[i]? = some x ∧ v = .str x t
  | _, _, .nil, i, v, h => by simp at h
  | _, _, .cons y t r, 0, v, h => by simp at h; exact ⟨y, t, by simp, h.symm⟩
  | _, _, .cons y t r, i + 1, v, h => by
    simp only [List.getElem?_cons_succ] at h ⊢
    exact strs_at r h
theorem strs_len : ∀ {vs : List Value} {xs : List Str}, StrsAre vs xs → vs.length = xs.length
  | _, _, .nil => rfl
  | _, _, .cons _ _ r => by simp [strs_len r]
theorem strs_of {α : Type} (f : α → Str) : ∀ (xs : List α) (ys : List Value), ys.length = xs.length → (∀ (i : Nat) (y : Value), ys[i]? = some y → ∃ x t, xs[i]? = some x ∧ y = .str (f x) t) → StrsAre ys (xs.map f)
  | [], [], _, _ => .nil
  | [], _ :: _, h, _ => by simp at h
  | _ :: _, [], h, _ => by simp at h
  | x :: xs, y :: ys, h, hy => by
    obtain ⟨x', t, e1, e2⟩ := hy 0 y (by simp)
    simp at e1
    subst e1
    rw [e2, List.map_cons]
    refine .cons _ _ (strs_of f xs ys (by simpa using h) fun i y' e => ?_)
    have := hy (i + 1) y' (by simpa using e)
    simpa using this
theorem el_str {α : Type} {f : α → Str} {xs : List α} {i : Nat} {x : α} {a : Str} {t : Tok} (hx : xs[i]? = some x) (e : a = f x) : ∃ x t', xs[i]? = some x ∧ Value.str a t = .str (f x) t' := ⟨x, t, hx, by rw [e]⟩
/-- a new list of texts -/
def NewStrs (xs : List Str) (h : Heap) (v : Value) (h' : Heap) : Prop := ∃ a vs n, v = .ref a ∧ h'.get? a = some (W.listOf vs.toArray n) ∧ StrsAre vs xs ∧ h.get? a = none
section
variable (w : World) (mean : ExcName → Option Value) (mg mb : Str → Option Value)
theorem c_dot (l : Addr) (vs : List Value) (xs : List Str) (hi : StrsAre vs xs) (hb : ∀ x ∈ xs, x.length ≤ 1000) (hl : vs.toArray.size ≤ sizeLine) : Says w mean mg mb 2 (call (.ref 177) [.ref l]) (fun h => h.IsList l vs.toArray) (NewStrs (xs.map dotRow)) := by
  unfold Says; intros; rename_i hret; walk_at "mine:in"
  w_nolog k_steps
  refine comp_rest (fun i y => ∃ x t, xs[i]? = some x ∧ y = .str (dotRow x) t) ?turn ?fin
  case turn =>
    intro i v I oI C oC D m₂ ys h tk E' hin hP hC hx F N off ne
    obtain ⟨x, t, hx', rfl⟩ := strs_at hi (i := i) (v := v) (by simpa using hP)
    have hxl : x.length ≤ 1048576 := Nat.le_trans (hb x (List.mem_of_getElem? hx')) (by decide)
    dsimp only
    w_nolog k_steps
    · exact ⟨rfl, el_str hx' (by unfold dotRow; rw [if_pos (by assumption)])⟩
    · exact ⟨rfl, el_str hx' (by unfold dotRow; rw [if_neg (ne_true_of_eq_false (by assumption))])⟩
  case fin =>
    intro ys hlen hG
    w_nolog k_steps
    rename News _ _ _ _ => N9
    exact hret _ _ _ (Fr.keep (by k_asm)) ⟨_, _, _, rfl, (N9 _ (.head _)).1, strs_of dotRow xs ys (by rw [hlen, List.size_toArray, strs_len hi]) hG, (N9 _ (.head _)).2.2⟩
end
end PartFn6
section PartFn7
open PySem PySem.W PyProof.Rows
set_option maxRecDepth 100000
set_option maxHeartbeats 4000000
open PySem.Calls
section
variable {prog : Program} {w : World} {A : Around} {E : Value → Shared → Prop} {s : Shared} {x y z : Str} {t u v : Tok} {Q : Value → Shared → Prop}
theorem replaceT (hu : @Ne Nat u 0) (hv : @Ne Nat v 0) (huv : @Ne Nat u v) (hyz : (y == z) = false) (hx : x.length ≤ 1048576) (hz : z.length ≤ 14)
    (hq : ∀ t' k, s.toks ≤ k → Q (.str (Txt.replace x y z) t') { s with toks := k }) : wpAny (model prog w) A (call (.builtin "str.replace") [.str x t, .str y u, .str z v]) Q E s := by
  have hb : x.length + (x.length + 1) * z.length ≤ 16777216 := by
    have h1 : (x.length + 1) * z.length ≤ (x.length + 1) * 14 := Nat.mul_le_mul_left _ hz
    omega
  have few := StrLaws.occ_length_le x y 0 x.length (x.length + 1)
  have fits : Builtin.Str.tooLong (x.length + (Builtin.Str.occurrences x y 0 x.length (x.length + 1)).length * z.length) = false := by
    have := Nat.mul_le_mul_right z.length few
    unfold Builtin.Str.tooLong
    rw [sizeLine_eq]
    exact decide_eq_false (by omega)
  have G := gives_str_replace x y z t u v fun _ => ⟨by have h1 : u ≠ 0 := hu; have h2 : v ≠ 0 := hv; simp [h1, h2], by have h3 : u ≠ v := huv; simp [h3], hyz, fits⟩
  refine call_gives F.slot_str_replace (typeIs_str _ _ _) F.entry_str_replace (F.args_str_replace_3 _ _ _) G ?_
  by_cases hc : ((Builtin.Str.occurrences x y 0 x.length (x.length + 1)).isEmpty || (y.length == 0 && z.length == 0)) = true
  · rw [if_pos hc]
    have := hq t s.toks (Nat.le_refl _)
    rw [show Txt.replace x y z = x from if_pos hc] at this
    exact this
  · rw [if_neg hc]
    refine ⟨fits_replaced y hb, ?_⟩
    have := hq s.toks (s.toks + 1) (Nat.le_succ _)
    rw [show Txt.replace x y z = _ from if_neg hc] at this
    exact this
end
section
variable {prog : Program} {w : World} {A : Around} {hh : Heap} {gs : Array GenState} {dr : Drawn} {tk : Nat} {os : OsState} {K : Frag} {p : Program} {loose : List Str} {mean : ExcName → Option Value} {mg mb : Str → Option Value}
  {R : Result → Shared → Prop} {name qual : Str} {params : Arguments} {body : List Stmt} {scope : Scope} {dV kV doc pm cdv ct oc : Value} {an od : Option Addr} {osl : Array (Option Value)} {f : Addr} {args : Args} {binds : List (Str × Value)}
theorem enter0T (X : K.In hh) (T : Top p loose mean mg mb hh)
    (ho : K.lookup f = some ⟨oc, od, .func (fnOf name qual params body scope dV kV doc pm an cdv ct), osl⟩) (hcd : codeIn K cdv qual = true) (hroom : A.depth < recursionLimit)
    (hbind : BindsTo ⟨hh, gs, dr, tk, os⟩ (fnOf name qual params body scope dV kV doc pm an cdv ct) args binds) (hloc : ∀ y ∈ binds, scope.names.lookup y.1 = some .local) (hpos : 0 < binds.length)
    (h : ∀ L' h₁ tk₁, 0 < tk₁ → Fr hh L' h₁ (fun y => binds.reverse.lookup y) → News hh L' h₁ [] →
      wpAny (model prog w) (A.deeper (envOf qual scope L' f cdv)) (execs body (envOf qual scope L' f cdv))
        (fun fl s' => R (.ok (.ret (match fl with | .ret v => v | _ => .none))) s')
        (fun e s' => wpAny (model prog w) (A.deeper (envOf qual scope L' f cdv)) (leaving (envOf qual scope L' f cdv) e) (fun _ s'' => R (.error e) s'') (fun e' s'' => R (.error e') s'') s')
        ⟨h₁, gs, dr, tk₁, os⟩)
    (hco : scope.isCoroutine = false) (hgen : scope.isGenerator = false) (hk : scope.kind = .function)
    (hcell : ∀ x ∈ scope.names, x.2 ≠ .cell) : codeAny (model prog w) A (.call (.ref f) args) R ⟨hh, gs, dr, tk, os⟩ :=
  enter0 X T ho hcd hroom hbind hloc (fun L' h₁ F N => h L' h₁ (tk + binds.length) (by omega) F N) hco hgen hk hcell
end
theorem fillme7 : PySem.Challenge.rw_pa0025_01 = PySem.Challenge.rw_pa0025_01 ∧ hd.heap_39 = hd.heap_39 := by
  k_fill
  exact ⟨rfl, rfl⟩
local macro_rules | `(tactic| walk_at "call builtin:str.replace") => `(tactic| (k_here; (refine replaceT (by omega) (by omega) (by omega) (by decide +kernel) (by assumption) (by decide) ?_); intro _ _ hk9; (try dsimp only at hk9)))
theorem strs_vals : ∀ (l : List (Str × Tok)), StrsAre (strValues l) (l.map (·.1))
  | [] => .nil
  | (x, t) :: r => .cons x t (strs_vals r)
theorem vals_strs : ∀ {vs : List Value} {xs : List Str}, StrsAre vs xs → ∃ l : List (Str × Tok), vs = strValues l ∧ l.map (·.1) = xs
  | _, _, .nil => ⟨[], rfl, rfl⟩
  | _, _, .cons y t r => by
    obtain ⟨l, e1, e2⟩ := vals_strs r
    exact ⟨(y, t) :: l, by rw [e1]; rfl, by rw [← e2]; rfl⟩
theorem seq_isList {h₀ h : Heap} {L a : Addr} {news : List (Addr × Obj)} {l : List Value} (N : News h₀ L h news) (hm : (a, ({ cls := .type "list", data := .seq l.toArray } : Obj)) ∈ news) : h.IsList a l.toArray := ⟨_, (N _ hm).1, rfl, _, rfl⟩
theorem bound_of {l : List (Str × Tok)} {n : Nat} (hb : ∀ a ∈ l.map (·.1), a.length ≤ n) (hn : n ≤ 1000) : ∀ a ∈ l.map (·.1), a.length ≤ 1000 := fun a ha => Nat.le_trans (hb a ha) hn
theorem vals_size {l : List (Str × Tok)} {X : List Str} (e : l.map (·.1) = X) (h : X.length ≤ 1000) : (strValues l).toArray.size ≤ sizeLine := by
  have : l.length = X.length := by rw [← e, List.length_map]
  rw [List.size_toArray, sizeLine_eq]; unfold strValues; rw [List.length_map]; omega
local macro_rules | `(tactic| walk_at "call ref") => `(tactic| (k_here; refine hold ?_))
theorem join_dot {prog : Program} {w : World} {A : Around} {E : Value → Shared → Prop} {s : Shared} {Q : Value → Shared → Prop} {D : Addr} {l9 l : List (Str × Tok)} {X : List Str} {sep : Str} {t : Tok} (hl : s.heap.IsList D (strValues l9).toArray) (h1 : l9.map (·.1) = (l.map (·.1)).map dotRow) (h2 : l.map (·.1) = X)
    (hok : JoinOk sep (X.map dotRow) = true) (hq : ∀ t' k, Q (.str (Txt.join sep (X.map dotRow)) t') { s with toks := k }) : wpAny (model prog w) A (call (.builtin "str.join") [.str sep t, .ref D]) Q E s := SC.join hl (by rw [h1, h2]) hok hq
theorem join_row {prog : Program} {w : World} {A : Around} {E : Value → Shared → Prop} {s : Shared} {Q : Value → Shared → Prop} {h₀ : Heap} {L D : Addr} {news : List (Addr × Obj)} {l : List (Str × Tok)} {X : List Str} {sep : Str} {t : Tok} (N : News h₀ L s.heap news) (hm : (D, ({ cls := .type "list", data := .seq (strValues l).toArray } : Obj)) ∈ news) (h2 : l.map (·.1) = X)
    (hok : JoinOk sep X = true) (hq : ∀ t' k, Q (.str (Txt.join sep X) t') { s with toks := k }) : wpAny (model prog w) A (call (.builtin "str.join") [.str sep t, .ref D]) Q E s := SC.join (seq_isList N hm) h2 hok hq
local macro_rules | `(tactic| walk_at "call builtin:str.join") => `(tactic| (k_here; first | (refine' join_dot ?hl ?h1 ?h2 ?ok ?_; (case hl => assumption); (case h1 => assumption); (case h2 => assumption); (case ok => assumption); intro _ _) | (refine' join_row ?N2 ?m2 ?h2 ?ok ?_; (case N2 => k_asm); (case m2 => k_mem); (case h2 => assumption); (case ok => assumption); intro _ _)))
abbrev lfs (x : Str) : Str := Txt.replace (Txt.replace x (Str.ofString "\r\n") (Str.ofString "\n")) (Str.ofString "\r") (Str.ofString "\n")
section
variable (w : World) (mean : ExcName → Option Value) (mg mb : Str → Option Value)
theorem c_pages (x : Str) (t : Tok) (hl : x.length ≤ 1000) (hl1 : (Txt.replace x (Str.ofString "\r\n") (Str.ofString "\n")).length ≤ 1048576) (hl2 : (lfs x).length ≤ 1000)
    (hs1 : (Txt.split x (Str.ofString "\n")).length ≤ 1000) (hs2 : (Txt.split (lfs x) (Str.ofString "\n")).length ≤ 1000)
    (hj1 : JoinOk (Str.ofString "\n") ((Txt.split x (Str.ofString "\n")).map dotRow) = true) (hj2 : JoinOk (Str.ofString "\r\n") (Txt.split (lfs x) (Str.ofString "\n")) = true) (hj3 : JoinOk (Str.ofString "\r\n") ((Txt.split (lfs x) (Str.ofString "\n")).map dotRow) = true) :
    Says w mean mg mb 4 (call (.ref 184) [.str x t]) Plain (NewStrs [Txt.join (Str.ofString "\r\n") (Txt.split (lfs x) (Str.ofString "\n")), Txt.join (Str.ofString "\r\n") ((Txt.split (lfs x) (Str.ofString "\n")).map dotRow), Txt.join (Str.ofString "\n") ((Txt.split x (Str.ofString "\n")).map dotRow)]) := by
  have hl0 : x.length ≤ 1048576 := by omega
  have hl3 : (lfs x).length ≤ 1048576 := by omega
  unfold lfs at hl2 hs2 hj2 hj3 hl3
  unfold Says; intros; rename_i hret; (refine wpAny_call ?_; k_dflt (refine' enter0T ?k3 ?k5 ?k6 ?k7 ?k8 ?k9 ?kB ?kp ?_ ?c2 ?c3 ?c4 ?c5; (case k3 => assumption); (case k5 => assumption); (case k6 => k_is); (case k7 => k_is); (case k8 => ktr_room); (case k9 => first | exact BindsTo.of_eq rfl | exact binds_K (by k_in) rfl (by k_is) rfl rfl rfl); (case kB => exact locs rfl); (case kp => exact Nat.le_of_ble_eq_true rfl); (case c2 => exact rfl); (case c3 => exact rfl); (case c4 => exact rfl); (case c5 => decide); k_whole; intro L' h' tk1 hpos1 F' N'; (try dsimp only); (try k_fold)))
  w_nolog k_steps
  all_goals (try (unfold Hold; ((with_reducible show wpAny _ _ (call (Value.ref 177) _ _) _ _ _); k_dflt (refine' Says.use (c_dot _ _ _ _ _ _ _ (strs_vals _) ?h1 ?h2) ?B ?F ?X ?N ?T ?hf ?hk ?d ?u ?P ?_; (case P => (refine' seq_isList ?N2 ?m2; (case N2 => k_asm); (case m2 => k_mem))); (case h1 => exact bound_of (by assumption) (by assumption)); (case h2 => exact vals_size (by assumption) (by assumption)); walk_at "mine:use"; intro v9 h9 tk9 F9 N9 g9 r9; obtain ⟨a9, vs9, n9, r9, hl9, hs9, hn9⟩ := r9; subst r9; replace hl9 := isList_of hl9; obtain ⟨l9, e9, hx9⟩ := vals_strs hs9; subst e9; (try dsimp only); (try k_fold)))))
  all_goals (w_nolog k_steps)
  all_goals (try (unfold Hold; ((with_reducible show wpAny _ _ (call (Value.ref 177) _ _) _ _ _); k_dflt (refine' Says.use (c_dot _ _ _ _ _ _ _ (strs_vals _) ?h1 ?h2) ?B ?F ?X ?N ?T ?hf ?hk ?d ?u ?P ?_; (case P => (refine' seq_isList ?N2 ?m2; (case N2 => k_asm); (case m2 => k_mem))); (case h1 => exact bound_of (by assumption) (by assumption)); (case h2 => exact vals_size (by assumption) (by assumption)); walk_at "mine:use"; intro v9 h9 tk9 F9 N9 g9 r9; obtain ⟨a9, vs9, n9, r9, hl9, hs9, hn9⟩ := r9; subst r9; replace hl9 := isList_of hl9; obtain ⟨l9, e9, hx9⟩ := vals_strs hs9; subst e9; (try dsimp only); (try k_fold)))))
  all_goals (w_nolog k_steps)
  rename News _ _ _ _ => N9
  exact hret _ _ _ (Fr.keep (by k_asm)) ⟨_, _, _, rfl, (N9 _ (.head _)).1, .cons _ _ (.cons _ _ (.cons _ _ .nil)), (N9 _ (.head _)).2.2⟩
end
end PartFn7
section PartFn8
open PySem PySem.W PyProof.Rows
set_option maxRecDepth 100000
set_option maxHeartbeats 4000000
theorem fillme8 : PySem.Challenge.rw_pa0025_01 = PySem.Challenge.rw_pa0025_01 ∧ hd.heap_39 = hd.heap_39 := by
  k_fill
  exact ⟨rfl, rfl⟩
local macro_rules | `(tactic| walk_at "call ref") => `(tactic| (k_here; refine hold ?_))
local macro_rules | `(tactic| walk_at "getMethod str") => `(tactic| (k_here; (with_reducible refine meth_encode ?_)))
local macro_rules | `(tactic| walk_at "call builtin:str.encode") => `(tactic| (k_here; (refine call_encode (by assumption) (by assumption) ?_); intro _ _))
local macro_rules | `(tactic| walk_at "call builtin:bytes.decode") => `(tactic| (k_here; (refine call_decode (by assumption) (by assumption) (by assumption) ?_); intro _ _))
/-- the writing of octets with two signs -/
abbrev written (b : Array UInt8) (two : Str) : Array UInt8 := (byteArr (b2run (octInts b)).out).map fun c => (transTab #[43, 47] (asciiOf two)).getD c.toNat c
abbrev quoted (wr : Array UInt8) : Array UInt8 := octs (dotF true (wr.map (·.toNat)).toList)
section
variable (w : World) (mean : ExcName → Option Value) (mg mb : Str → Option Value)
theorem c_made (b : Array UInt8) (two : Str) (t u : Tok) (hsz : b.size ≤ 1000) (hb0 : (b2run (octInts b)).b = 0) (h2 : two.length = 2) (ha : ∀ c ∈ two.cps, c < 128)
    (hne : (written b two).size ≠ 0) (hwa : ∀ c ∈ written b two, c < 128) (hqa : ∀ c ∈ quoted (written b two), c < 128) (hqne : (quoted (written b two)).size ≠ 0) :
    Says w mean mg mb 5 (call (.ref 191) [.bytes b t, .str two u]) Plain (NewStrs [tx (fixF false (textOf (written b two)).cps.toList), tx (dotF true (fixF false (textOf (written b two)).cps.toList)), textOf (quoted (written b two))]) := by
  have hz1 : (asciiOf two).size = 2 := by simp only [asciiOf, Array.size_map]; exact h2
  have hz0 : two.length ≤ 16777216 := by omega
  have hzl : (octInts b).length = b.size := by simp [octInts]
  have hz2 : (written b two).size ≤ 2000 := by
    have := (b2run_inv (octInts b)).len
    simp only [written, Array.size_map, byteArr_size]; omega
  have hz3 : (textOf (written b two)).length ≤ 524288 := by rw [textOf_length]; omega
  have hz4 : (textOf (written b two)).length ≤ 1048576 := by omega
  have hz5 : (written b two).size ≤ 16777216 := by omega
  have hz6 : (written b two).size ≤ 1048576 := by omega
  have hz7 : (quoted (written b two)).size ≤ 16777216 := by
    have := dotF_len ((written b two).map (·.toNat)).toList true
    simp only [quoted, octs, List.size_toArray, List.length_map]
    have e : ((written b two).map (·.toNat)).toList.length = (written b two).size := by simp
    omega
  unfold Says; intros; rename_i hret; walk_at "mine:in"
  w_nolog k_steps
  all_goals (try (unfold Hold; (first | ((with_reducible show wpAny _ _ (call (Value.ref 147) _ _) _ _ _); k_dflt (refine' Says.use (c_b64e _ _ _ _ _ _ _ _ ?h1 ?h2 ?h3) ?B ?F ?X ?N ?T ?hf ?hk ?d ?u ?P ?_; (case h1 => assumption); (case h2 => assumption); (case h3 => assumption); walk_at "mine:use2")) | ((with_reducible show wpAny _ _ (call (Value.ref 74) _ _) _ _ _); k_dflt (refine' Says.use (c_fix _ _ _ _ _ _ ?h1) ?B ?F ?X ?N ?T ?hf ?hk ?d ?u ?P ?_; (case h1 => assumption); walk_at "mine:use2")) | ((with_reducible show wpAny _ _ (call (Value.ref 60) _ _) _ _ _); k_dflt (refine' Says.use (c_quote _ _ _ _ _ _ ?h1) ?B ?F ?X ?N ?T ?hf ?hk ?d ?u ?P ?_; (case h1 => assumption); walk_at "mine:use2")) | ((with_reducible show wpAny _ _ (call (Value.ref 67) _ _) _ _ _); k_dflt (refine' Says.use (c_qp _ _ _ _ _ _ ?h1) ?B ?F ?X ?N ?T ?hf ?hk ?d ?u ?P ?_; (case h1 => assumption); walk_at "mine:use2")))))
  all_goals (w_nolog k_steps)
  all_goals (try (unfold Hold; (first | ((with_reducible show wpAny _ _ (call (Value.ref 147) _ _) _ _ _); k_dflt (refine' Says.use (c_b64e _ _ _ _ _ _ _ _ ?h1 ?h2 ?h3) ?B ?F ?X ?N ?T ?hf ?hk ?d ?u ?P ?_; (case h1 => assumption); (case h2 => assumption); (case h3 => assumption); walk_at "mine:use2")) | ((with_reducible show wpAny _ _ (call (Value.ref 74) _ _) _ _ _); k_dflt (refine' Says.use (c_fix _ _ _ _ _ _ ?h1) ?B ?F ?X ?N ?T ?hf ?hk ?d ?u ?P ?_; (case h1 => assumption); walk_at "mine:use2")) | ((with_reducible show wpAny _ _ (call (Value.ref 60) _ _) _ _ _); k_dflt (refine' Says.use (c_quote _ _ _ _ _ _ ?h1) ?B ?F ?X ?N ?T ?hf ?hk ?d ?u ?P ?_; (case h1 => assumption); walk_at "mine:use2")) | ((with_reducible show wpAny _ _ (call (Value.ref 67) _ _) _ _ _); k_dflt (refine' Says.use (c_qp _ _ _ _ _ _ ?h1) ?B ?F ?X ?N ?T ?hf ?hk ?d ?u ?P ?_; (case h1 => assumption); walk_at "mine:use2")))))
  all_goals (w_nolog k_steps)
  all_goals (try (unfold Hold; (first | ((with_reducible show wpAny _ _ (call (Value.ref 147) _ _) _ _ _); k_dflt (refine' Says.use (c_b64e _ _ _ _ _ _ _ _ ?h1 ?h2 ?h3) ?B ?F ?X ?N ?T ?hf ?hk ?d ?u ?P ?_; (case h1 => assumption); (case h2 => assumption); (case h3 => assumption); walk_at "mine:use2")) | ((with_reducible show wpAny _ _ (call (Value.ref 74) _ _) _ _ _); k_dflt (refine' Says.use (c_fix _ _ _ _ _ _ ?h1) ?B ?F ?X ?N ?T ?hf ?hk ?d ?u ?P ?_; (case h1 => assumption); walk_at "mine:use2")) | ((with_reducible show wpAny _ _ (call (Value.ref 60) _ _) _ _ _); k_dflt (refine' Says.use (c_quote _ _ _ _ _ _ ?h1) ?B ?F ?X ?N ?T ?hf ?hk ?d ?u ?P ?_; (case h1 => assumption); walk_at "mine:use2")) | ((with_reducible show wpAny _ _ (call (Value.ref 67) _ _) _ _ _); k_dflt (refine' Says.use (c_qp _ _ _ _ _ _ ?h1) ?B ?F ?X ?N ?T ?hf ?hk ?d ?u ?P ?_; (case h1 => assumption); walk_at "mine:use2")))))
  all_goals (w_nolog k_steps)
  all_goals (try (unfold Hold; (first | ((with_reducible show wpAny _ _ (call (Value.ref 147) _ _) _ _ _); k_dflt (refine' Says.use (c_b64e _ _ _ _ _ _ _ _ ?h1 ?h2 ?h3) ?B ?F ?X ?N ?T ?hf ?hk ?d ?u ?P ?_; (case h1 => assumption); (case h2 => assumption); (case h3 => assumption); walk_at "mine:use2")) | ((with_reducible show wpAny _ _ (call (Value.ref 74) _ _) _ _ _); k_dflt (refine' Says.use (c_fix _ _ _ _ _ _ ?h1) ?B ?F ?X ?N ?T ?hf ?hk ?d ?u ?P ?_; (case h1 => assumption); walk_at "mine:use2")) | ((with_reducible show wpAny _ _ (call (Value.ref 60) _ _) _ _ _); k_dflt (refine' Says.use (c_quote _ _ _ _ _ _ ?h1) ?B ?F ?X ?N ?T ?hf ?hk ?d ?u ?P ?_; (case h1 => assumption); walk_at "mine:use2")) | ((with_reducible show wpAny _ _ (call (Value.ref 67) _ _) _ _ _); k_dflt (refine' Says.use (c_qp _ _ _ _ _ _ ?h1) ?B ?F ?X ?N ?T ?hf ?hk ?d ?u ?P ?_; (case h1 => assumption); walk_at "mine:use2")))))
  all_goals (w_nolog k_steps)
  rename News _ _ _ _ => N9
  exact hret _ _ _ (Fr.keep (by k_asm)) ⟨_, _, _, rfl, (N9 _ (.head _)).1, .cons _ _ (.cons _ _ (.cons _ _ .nil)), (N9 _ (.head _)).2.2⟩
end
end PartFn8
section PartFn9
open PySem PySem.W PyProof.Rows
set_option maxRecDepth 100000
set_option maxHeartbeats 4000000
theorem fillme9 : PySem.Challenge.rw_pa0025_01 = PySem.Challenge.rw_pa0025_01 ∧ hd.heap_39 = hd.heap_39 := by
  k_fill
  exact ⟨rfl, rfl⟩
local macro_rules | `(tactic| walk_at "exec For Name Name cons nil") => `(tactic| (k_here; (rename Fr _ _ _ _ => lF'); (with_unfolding_all refine' For_invVF lF' ?k1 ?k2 ?_; (case k1 => exact rfl); (case k2 => exact rfl); k_whole)))
local macro_rules | `(tactic| walk_at "eval ListComp") => `(tactic| (k_here; k_dflt (refine LCg.ListComp_U (F₀ := by k_asm) (by with_unfolding_all rfl) (by decide) (by rfl) (by decide) (by rfl) ?_)))
theorem pow_ne (n : Nat) : (256 : Int) ^ n ≠ 0 := Int.ne_of_gt (Int.pow_pos (by decide))
theorem pow_py {n : Nat} (h : n ≤ 100) : ((256 : Int) ^ n).natAbs.log2 < 9000 := by
  have e : ((256 : Int) ^ n).natAbs = 2 ^ (8 * n) := by rw [Int.natAbs_pow, Nat.pow_mul]; rfl
  rw [e, Nat.log2_two_pow]; omega
local macro_rules | `(tactic| walk_at "binaryOp FloorDiv int int") => `(tactic| (k_here; (with_reducible refine floordiv_int (b := (256 : Int) ^ (_ : Nat)) (pow_ne _) ?_ (Or.inl (PyProof.noPylong_of_log2 (pow_py ?kb9)))); (case kb9 => omega)))
abbrev octLed (a b : Addr) (p o : Obj) : List (Addr × Obj) := [(a, p), (b, o)]
def numOf (ns : List Int) : Int := ns.foldl (fun a n => a * 64 + n) 0
theorem num_fold : ∀ (ns : List Int) (a : Int), (∀ x ∈ ns, 0 ≤ x ∧ x < 64) → 0 ≤ a → 0 ≤ ns.foldl (fun a n => a * 64 + n) a ∧ ns.foldl (fun a n => a * 64 + n) a < (a + 1) * 64 ^ ns.length
  | [], a, _, ha => ⟨ha, by simp; omega⟩
  | n :: r, a, h, ha => by
    have h1 := h n (.head _)
    have ih := num_fold r (a * 64 + n) (fun x hx => h x (.tail _ hx)) (by omega)
    refine ⟨ih.1, Int.lt_of_lt_of_le ih.2 ?_⟩
    rw [List.length_cons, Int.pow_succ, Int.mul_comm (64 ^ r.length) 64, ← Int.mul_assoc]
    exact Int.mul_le_mul_of_nonneg_right (by omega) (Int.le_of_lt (Int.pow_pos (by decide)))
theorem num_range {ns : List Int} (h : ∀ x ∈ ns, 0 ≤ x ∧ x < 64) : 0 ≤ numOf ns ∧ numOf ns < 64 ^ ns.length := by
  have := num_fold ns 0 h (by decide)
  simpa [numOf] using this
theorem num_small {ns : List Int} (h : ∀ x ∈ ns, 0 ≤ x ∧ x < 64) (hl : ns.length ≤ 100) : 0 ≤ numOf ns ∧ numOf ns < 2 ^ 1000 := by
  have h1 := num_range h
  refine ⟨h1.1, Int.lt_of_lt_of_le h1.2 ?_⟩
  have e : (64 : Int) ^ ns.length = 2 ^ (6 * ns.length) := by rw [Int.pow_mul]; rfl
  rw [e]
  exact_mod_cast Nat.pow_le_pow_right (by decide : 0 < 2) (by omega : 6 * ns.length ≤ 1000)
/-- the octets of figures -/
def octF (ns : List Int) : List Int := List.map (fun k' : Int => (((numOf ns).fdiv (2 ^ ((ns.length : Int) * 6 - ((ns.length : Int) * 6).fdiv 8 * 8).toNat)).fdiv (256 ^ (((ns.length : Int) * 6).fdiv 8 - 1 - k').toNat)).fmod 256) (rangeKs 0 (((ns.length : Int) * 6).fdiv 8 - 0).toNat)
theorem num_snoc {ns : List Int} {i : Nat} {n : Int} (hn : ns[i]? = some n) : numOf (ns.take (i + 1)) = numOf (ns.take i) * 64 + n := by
  unfold numOf; rw [List.take_add_one, hn]; simp
theorem num_w {ns : List Int} {i : Nat} {n q : Int} {o : Obj} {t : Tok} (hn : ns[i]? = some n) (hq : numOf (ns.take i) = q) (hd : o.data = .cell (some (.int (q * 64 + n) t))) : ∃ t', o.data = .cell (some (.int (numOf (ns.take (i + 1))) t')) := ⟨t, by rw [num_snoc hn, hq]; exact hd⟩
theorem oct_end {h₀ : Heap} {L a b : Addr} {p o : Obj} {rest own : List (Addr × Obj)} {ps : List (Str × Value)} {P : Nat → Obj → Prop} {i : Nat} {adr : List Addr} {s₁ : Shared} {h' : Heap} {m' : Str → Option Value} {tk : Nat}
    (F : Fr h₀ L h' m') (N : News h₀ L h' ((a, p) :: (b, o) :: rest)) (hm : ∀ q ∈ ps, m' q.1 = some q.2) (hP : P i o) (ha : [a, b] = adr) (ho : ∀ q ∈ own, q ∈ rest) :
    InvEndN h₀ L (KS (octLed a b p) (fun _ => ps) P i) own adr s₁ { s₁ with heap := h', toks := tk } :=
  ks_end o F N hm hP ha (List.forall_mem_cons.mpr ⟨.head _, List.forall_mem_cons.mpr ⟨.tail _ (.head _), List.forall_mem_nil _⟩⟩) fun q hq => .tail _ (.tail _ (ho q hq))
section
variable (w : World) (mean : ExcName → Option Value) (mg mb : Str → Option Value)
theorem c_octs (l : Addr) (vs : List Value) (ns : List Int) (hi : IntsAre vs ns) (hb : ∀ x ∈ ns, 0 ≤ x ∧ x < 64) (hl : ns.length ≤ 100) : Says w mean mg mb 2 (call (.ref 165) [.ref l]) (fun h => h.IsList l vs.toArray) (fun _ v _ => ∃ t', v = .bytes (byteArr (octF ns)) t') := by
  unfold Says; intros; rename_i hret; (refine wpAny_call ?_; k_dflt (refine' enter0C ?k3 ?k5 ?k6 ?k7 ?k8 ?k9 ?kB ?kD ?_ ?c2 ?c3 ?c4; (case k3 => assumption); (case k5 => assumption); (case k6 => k_is); (case k7 => k_is); (case k8 => ktr_room); (case k9 => first | exact BindsTo.of_eq rfl | exact binds_K (by k_in) rfl (by k_is) rfl rfl rfl | (refine' kp_binds ?kx ?ke; (case kx => k_in); (case ke => exact fun _ => rfl))); (case kB => exact rfl); (case kD => decide +kernel); (case c2 => exact rfl); (case c3 => exact rfl); (case c4 => exact rfl); k_whole; intro L' h' tk' cells' F' N' Y'; k_cells Y'; (try simp only [List.cons_append, List.nil_append] at N'); (try dsimp only); (try k_fold)))
  w_nolog k_steps
  refine' loop_ints (σ := Obj) (octLed _ _ _) (fun _ => [(Str.ofString "figures", .ref l)]) (fun i o => ∃ t, o.data = .cell (some (.int (numOf (ns.take i)) t))) _ ?hh ?hl ?hi ?F ?N ?hk ?hp ?turn ?done
  case N => k_asm
  case hh => rfl
  case hl => assumption
  case hi => exact hi
  case F => k_asm
  case hk => refine List.forall_mem_cons.mpr ⟨?_, List.forall_mem_nil _⟩; with_unfolding_all rfl
  case hp => exact ⟨_, by assumption⟩
  case turn =>
    intro o i n t' u h' tk' own hn hoff hP F' N'
    obtain ⟨t9, hd9⟩ := hP
    have hnb := hb n (List.mem_of_getElem? hn)
    have hb9 : 0 ≤ numOf (ns.take i) ∧ numOf (ns.take i) < 2 ^ 1000 := num_small (fun x hx => hb x (List.mem_of_mem_take hx)) (by simp; omega)
    generalize hq9 : numOf (ns.take i) = q at *
    simp only [kstB] at F'
    dsimp only
    w_nolog k_steps
    rename News _ _ _ _ => nE'
    exact oct_end (by k_asm) nE' (by refine List.forall_mem_cons.mpr ⟨?_, List.forall_mem_nil _⟩; with_unfolding_all rfl) (num_w (by assumption) (by assumption) (by assumption)) rfl (fun q hq => hq)
  case done =>
    intro o u h' tk' hP F' N'
    obtain ⟨t9, hd9⟩ := hP
    rw [List.take_length] at hd9
    have hb9 : 0 ≤ numOf ns ∧ numOf ns < 2 ^ 1000 := num_small hb hl
    have hs9 : 0 ≤ ((ns.length : Int) * 6).fdiv 8 ∧ ((ns.length : Int) * 6).fdiv 8 ≤ 100 := by rw [Int.fdiv_eq_ediv_of_nonneg _ (by decide)]; omega
    simp only [kstB] at F'
    dsimp only
    w_nolog k_steps
    all_goals exact hret _ _ _ (Fr.keep (by k_asm)) ⟨_, rfl⟩
end
end PartFn9
section PartPL1
open PySem PySem.W PyProof.Rows
set_option maxRecDepth 100000
set_option maxHeartbeats 1000000
open PySem.Builtin.Str
/-- parts of a list at a pattern, from the left -/
inductive PL (y : List Nat) : List Nat → List (List Nat) → Prop
  | nil : PL y [] [[]]
  | hit {r ps} : PL y r ps → PL y (y ++ r) ([] :: ps)
  | miss {c r h t} : ¬ (y <+: c :: r) → PL y r (h :: t) → PL y (c :: r) ((c :: h) :: t)
theorem PL.ne {y l ps} (h : PL y l ps) : ∃ a t, ps = a :: t := by
  cases h <;> exact ⟨_, _, rfl⟩
def pre (p : List Nat) : List (List Nat) → List (List Nat)
  | [] => []
  | h :: t => (p ++ h) :: t
section
variable (x y : Str)
/-- the places found, from i on, free at f, n places left -/
def occs (x y : Str) : Nat → Nat → Nat → List Nat
  | 0, _, _ => []
  | n + 1, i, f => if f ≤ i ∧ i + y.length ≤ x.length ∧ subAt x y i = true then i :: occs x y n (i + 1) (i + y.length) else occs x y n (i + 1) f
theorem occ_occs (lim : Nat) : ∀ (n i : Nat) (st : Array Nat × Nat), st.1.size + n ≤ lim →
    (forIn (m := Id) (List.range' i n) st (StrLaws.occBody x y x.length lim)).run.fst.toList = st.1.toList ++ occs x y n i st.2
  | 0, i, st, _ => by simp [occs]
  | n + 1, i, st, h => by
    rw [List.range'_succ, List.forIn_cons]
    rw [show StrLaws.occBody x y x.length lim i st = if ((st.fst.size < lim ∧ st.snd ≤ i) ∧ i + y.length ≤ x.length) ∧ subAt x y i = true then pure (ForInStep.yield (st.fst.push i, i + y.length)) else pure (ForInStep.yield (st.fst, st.snd)) from rfl]
    unfold occs
    by_cases hc : st.2 ≤ i ∧ i + y.length ≤ x.length ∧ subAt x y i = true
    · rw [if_pos hc, if_pos ⟨⟨⟨by omega, hc.1⟩, hc.2.1⟩, hc.2.2⟩]
      have := occ_occs lim n (i + 1) (st.1.push i, i + y.length) (by simp; omega)
      simpa using this
    · rw [if_neg hc, if_neg (fun h => hc ⟨h.1.1.2, h.1.2, h.2⟩)]
      exact occ_occs lim n (i + 1) st (by omega)
theorem occ_is : occurrences x y 0 x.length (x.length + 1) = occs x y (x.length + 1) 0 0 := by
  rw [StrLaws.occ_eq]
  have := occ_occs x y (x.length + 1) (x.length + 1) 0 (#[], 0) (by simp)
  simpa using this
theorem occs_skip : ∀ (d n i : Nat), d ≤ n → occs x y n i (i + d) = occs x y (n - d) (i + d) (i + d)
  | 0, _, _, _ => rfl
  | d + 1, 0, _, h => by omega
  | d + 1, n + 1, i, h => by
    rw [occs, if_neg (by omega), show i + (d + 1) = (i + 1) + d by omega, occs_skip d n (i + 1) (by omega), Nat.add_sub_add_right]
variable (hy : 1 ≤ y.length)
include hy in
theorem at_iff {i : Nat} : (i + y.length ≤ x.length ∧ subAt x y i = true) ↔ (y.cps.toList <+: x.cps.toList.drop i) := by
  rw [StrLaws.subAt_eq, beq_iff_eq]
  have e : y.cps.toList.length = y.length := by simp [Str.length]
  have e2 : x.cps.toList.length = x.length := by simp [Str.length]
  constructor
  · rintro ⟨_, h⟩
    rw [← h]; exact List.take_prefix _ _
  · intro h
    have h2 := List.prefix_iff_eq_take.mp h
    rw [e] at h2
    refine ⟨?_, h2.symm⟩
    have := h.length_le
    rw [List.length_drop] at this
    omega
theorem sub_list (a b : Nat) : (strSub x a b).cps.toList = (x.cps.toList.drop a).take (b - a) := StrLaws.strSub_toList x a b
include hy in
theorem parts_PL : ∀ (n i a : Nat), a ≤ i → i + n = x.length + 1 →
    ∃ ps, PL y.cps.toList (x.cps.toList.drop i) ps ∧ (StrLaws.partsFrom x y.length a (occs x y n i a)).map (·.cps.toList) = pre ((x.cps.toList.drop a).take (i - a)) ps := by
  have e2 : x.cps.toList.length = x.length := by simp [Str.length]
  have e1 : y.cps.toList.length = y.length := by simp [Str.length]
  intro n
  induction n using Nat.strongRecOn with
  | _ n ih =>
    intro i a ha hn
    cases n with
    | zero =>
      refine ⟨[[]], ?_, ?_⟩
      · rw [List.drop_eq_nil_of_le (by omega)]; exact .nil
      · simp only [occs, StrLaws.partsFrom, List.map_cons, List.map_nil, sub_list, pre, List.append_nil]
        rw [List.take_of_length_le (by rw [List.length_drop]; omega), List.take_of_length_le (by rw [List.length_drop]; omega)]
    | succ n =>
      unfold occs
      by_cases hc : i + y.length ≤ x.length ∧ subAt x y i = true
      · rw [if_pos ⟨ha, hc⟩]
        have hp := (at_iff x y hy).mp hc
        obtain ⟨r, hr⟩ := hp
        have hs : occs x y n (i + 1) (i + y.length) = occs x y (n - (y.length - 1)) (i + y.length) (i + y.length) := by
          have := occs_skip x y (y.length - 1) n (i + 1) (by omega)
          rwa [show i + 1 + (y.length - 1) = i + y.length by omega] at this
        obtain ⟨ps, h1, h2⟩ := ih (n - (y.length - 1)) (by omega) (i + y.length) (i + y.length) (Nat.le_refl _) (by omega)
        have hr2 : x.cps.toList.drop (i + y.length) = r := by
          rw [← List.drop_drop, ← hr, ← e1, List.drop_left]
        refine ⟨[] :: ps, ?_, ?_⟩
        · rw [← hr]; exact .hit (hr2 ▸ h1)
        · rw [hs, StrLaws.partsFrom, List.map_cons, sub_list, h2]
          obtain ⟨p, t, rfl⟩ := h1.ne
          simp [pre]
      · rw [if_neg (fun h => hc h.2)]
        have hp : ¬ (y.cps.toList <+: x.cps.toList.drop i) := fun h => hc ((at_iff x y hy).mpr h)
        obtain ⟨ps, h1, h2⟩ := ih n (by omega) (i + 1) a (by omega) (by omega)
        rw [h2]
        rcases Nat.lt_or_ge i x.length with hi | hi
        · have hd : x.cps.toList.drop i = x.cps.toList[i]'(by omega) :: x.cps.toList.drop (i + 1) := List.drop_eq_getElem_cons (by omega)
          obtain ⟨p, t, rfl⟩ := h1.ne
          refine ⟨(x.cps.toList[i]'(by omega) :: p) :: t, ?_, ?_⟩
          · rw [hd] at hp ⊢; exact .miss hp h1
          · simp only [pre]
            congr 1
            have : (x.cps.toList.drop a).take (i + 1 - a) = (x.cps.toList.drop a).take (i - a) ++ [x.cps.toList[i]'(by omega)] := by
              rw [show i + 1 - a = (i - a) + 1 by omega, List.take_add_one]
              congr 1
              rw [List.getElem?_drop, show a + (i - a) = i by omega, List.getElem?_eq_getElem (by omega)]
              rfl
            rw [this]; simp
        · have hd : x.cps.toList.drop i = [] := List.drop_eq_nil_of_le (by omega)
          have hd2 : x.cps.toList.drop (i + 1) = [] := List.drop_eq_nil_of_le (by omega)
          rw [hd2] at h1
          refine ⟨ps, by rw [hd]; exact h1, ?_⟩
          rw [List.take_of_length_le (by rw [List.length_drop]; omega), List.take_of_length_le (by rw [List.length_drop]; omega)]
theorem str_inj {a b : List Str} (h : WData.list (a.map .str) = WData.list (b.map .str)) : a = b := by
  have h1 : a.map WData.str = b.map .str := by injection h
  clear h
  induction a generalizing b with
  | nil => cases b with
    | nil => rfl
    | cons => simp at h1
  | cons p r ih => cases b with
    | nil => simp at h1
    | cons q t =>
      simp only [List.map_cons, List.cons.injEq] at h1
      rw [ih h1.2]
      congr 1
      have := h1.1
      injection this
include hy in
theorem split_PL : ∃ ps, PL y.cps.toList x.cps.toList ps ∧ (Txt.split x y).map (·.cps.toList) = ps := by
  have h0 : (y.length == 0) = false := by simp; omega
  have e : Txt.split x y = partsBetween x (occurrences x y 0 x.length (x.length + 1)) y.length := by
    refine (str_inj (Option.some.inj ?_)).symm
    rw [← m_split x y h0]
    show _ = (if (y.length == 0) = true then Option.none else some (WData.list ((partsBetween x (occurrences x y 0 x.length (x.length + 1)) y.length).map .str)))
    rw [if_neg (by rw [h0]; nofun)]
  rw [e, StrLaws.partsBetween_eq, occ_is]
  obtain ⟨ps, h1, h2⟩ := parts_PL x y hy (x.length + 1) 0 0 (Nat.le_refl _) (by omega)
  refine ⟨ps, by simpa using h1, ?_⟩
  rw [h2]
  obtain ⟨p, t, rfl⟩ := h1.ne
  simp [pre]
end
/-- rows glued -/
def jn (z : List Nat) : List (List Nat) → List Nat
  | [] => []
  | [p] => p
  | p :: q :: r => p ++ z ++ jn z (q :: r)
theorem jn_cons {z p : List Nat} {ps : List (List Nat)} (h : ps ≠ []) : jn z (p :: ps) = p ++ z ++ jn z ps := by
  cases ps with
  | nil => exact absurd rfl h
  | cons => rfl
theorem jn_head (z : List Nat) (c : Nat) (h : List Nat) (t : List (List Nat)) : jn z ((c :: h) :: t) = c :: jn z (h :: t) := by
  cases t <;> simp [jn]
theorem join_list (z : Str) : ∀ ps : List Str, (Str.join z ps).cps.toList = jn z.cps.toList (ps.map (·.cps.toList))
  | [] => rfl
  | [p] => rfl
  | p :: q :: r => by
    have := join_list z (q :: r)
    show (p ++ z ++ Str.join z (q :: r)).cps.toList = _
    simp only [Str.cps_append, Array.toList_append, this, List.map_cons, jn]
theorem txt_join (z : Str) (ps : List Str) : (Txt.join z ps).cps.toList = jn z.cps.toList (ps.map (·.cps.toList)) := by
  show (glued z ps).cps.toList = _
  rw [StrLaws.glued_eq_join, join_list]
theorem replace_PL (x y z : Str) (hy : 1 ≤ y.length) : ∃ ps, PL y.cps.toList x.cps.toList ps ∧ (Txt.replace x y z).cps.toList = jn z.cps.toList ps := by
  have e : Txt.replace x y z = glued z (partsBetween x (occurrences x y 0 x.length (x.length + 1)) y.length) := by
    have h := m_replace x y z
    have h2 : some (WData.str (glued z (partsBetween x (occurrences x y 0 x.length (x.length + 1)) y.length))) = some (WData.str (Txt.replace x y z)) := h
    injection h2 with h3
    injection h3 with h4
    exact h4.symm
  rw [e, StrLaws.partsBetween_eq, occ_is, StrLaws.glued_eq_join, join_list]
  obtain ⟨ps, h1, h2⟩ := parts_PL x y hy (x.length + 1) 0 0 (Nat.le_refl _) (by omega)
  refine ⟨ps, by simpa using h1, ?_⟩
  rw [h2]
  obtain ⟨p, t, rfl⟩ := h1.ne
  simp [pre]
end PartPL1
section PartPL2
open PySem PySem.W PyProof.Rows
set_option maxRecDepth 100000
set_option maxHeartbeats 1000000
open PySem.Builtin.Str
def splitF : List Nat → List (List Nat)
  | [] => [[]]
  | c :: r => if c = 10 then [] :: splitF r else pre [c] (splitF r)
theorem splitF_ne : ∀ l, ∃ a t, splitF l = a :: t
  | [] => ⟨_, _, rfl⟩
  | c :: r => by
    obtain ⟨a, t, e⟩ := splitF_ne r
    unfold splitF
    split
    · exact ⟨_, _, rfl⟩
    · rw [e]; exact ⟨_, _, rfl⟩
theorem PL_split {l ps} (h : PL [10] l ps) : ps = splitF l := by
  induction h with
  | nil => rfl
  | hit _ ih => rw [ih]; simp [splitF]
  | @miss c r h t hn _ ih =>
    have hc : c ≠ 10 := fun e => hn (by rw [e]; exact ⟨r, rfl⟩)
    rw [splitF, if_neg hc, ← ih]; rfl
def rep2 : List Nat → List Nat
  | [] => []
  | c :: r => if c = 13 ∧ r.head? = some 10 then rep2 r else c :: rep2 r
theorem PL_rep2 {l ps} (h : PL [13, 10] l ps) : jn [10] ps = rep2 l := by
  induction h with
  | nil => rfl
  | @hit r ps hr ih =>
    obtain ⟨a, t, e⟩ := hr.ne
    rw [jn_cons (by rw [e]; nofun), ih]
    simp [rep2]
  | @miss c r h t hn _ ih =>
    have hc : ¬ (c = 13 ∧ r.head? = some 10) := by
      rintro ⟨rfl, h2⟩
      cases r with
      | nil => cases h2
      | cons d r =>
        have h3 : d = 10 := by simpa using h2
        exact hn (by rw [h3]; exact ⟨r, rfl⟩)
    rw [jn_head, ih, rep2, if_neg hc]
theorem PL_map {l ps} (h : PL [13] l ps) : jn [10] ps = l.map fun c => if c = 13 then 10 else c := by
  induction h with
  | nil => rfl
  | @hit r ps hr ih =>
    obtain ⟨a, t, e⟩ := hr.ne
    rw [jn_cons (by rw [e]; nofun), ih]
    simp
  | @miss c r h t hn _ ih =>
    have hc : c ≠ 13 := fun e => hn (by rw [e]; exact ⟨r, rfl⟩)
    rw [jn_head, ih, List.map_cons, if_neg hc]
def lfF (l : List Nat) : List Nat := (rep2 l).map fun c => if c = 13 then 10 else c
theorem lf_cr {c : Nat} {r : List Nat} (h : ¬ (c = 13 ∧ r.head? = some 10)) : lfF (c :: r) = (if c = 13 then 10 else c) :: lfF r := by
  unfold lfF
  rw [rep2, if_neg h, List.map_cons]
theorem lf_crlf {c : Nat} {r : List Nat} (h : c = 13 ∧ r.head? = some 10) : lfF (c :: r) = lfF r := by
  unfold lfF
  rw [rep2, if_pos h]
def dotL (p : List Nat) : List Nat := if p.head? = some 46 then 46 :: p else p
def dotG (z : List Nat) : Bool → List Nat → List Nat
  | _, [] => []
  | bol, c :: r => if c = 10 then z ++ dotG z true r else if (bol && c == 46) = true then 46 :: 46 :: dotG z false r else c :: dotG z false r
theorem jn_split (z : List Nat) : ∀ l, jn z (splitF l) = l.flatMap fun c => if c = 10 then z else [c]
  | [] => rfl
  | c :: r => by
    have ih := jn_split z r
    obtain ⟨a, t, e⟩ := splitF_ne r
    unfold splitF
    by_cases hc : c = 10
    · rw [if_pos hc, jn_cons (by rw [e]; nofun), ih]; simp [hc]
    · rw [if_neg hc, e]
      show jn z ((c :: a) :: t) = _
      rw [jn_head, ← e, ih]; simp [hc]
theorem flat_fix : ∀ l : List Nat, (lfF l).flatMap (fun c => if c = 10 then [13, 10] else [c]) = fixF false l
  | [] => rfl
  | c :: r => by
    have ih := flat_fix r
    by_cases h : c = 13 ∧ r.head? = some 10
    · rw [lf_crlf h, ih, h.1]
      cases r with
      | nil => simp at h
      | cons d r =>
        have h3 : d = 10 := by simpa using h.2
        rw [h3]; simp [fixF]
    · rw [lf_cr h, List.flatMap_cons, ih]
      by_cases h1 : c = 13
      · have h2 : r.head? ≠ some 10 := fun e => h ⟨h1, e⟩
        rw [h1]; simp [fixF, fixF_true h2]
      · by_cases h2 : c = 10
        · rw [h2]; simp [fixF]
        · simp [fixF, h1, h2]
theorem jn_dots (z : List Nat) : ∀ l, jn z ((splitF l).map dotL) = dotG z true l ∧ ∀ a t, splitF l = a :: t → jn z (a :: t.map dotL) = dotG z false l
  | [] => ⟨rfl, fun a t e => by injection e with h1 h2; rw [← h1, ← h2]; rfl⟩
  | c :: r => by
    obtain ⟨ih1, ih2⟩ := jn_dots z r
    obtain ⟨a, t, e⟩ := splitF_ne r
    by_cases hc : c = 10
    · have es : splitF (c :: r) = [] :: splitF r := by rw [splitF, if_pos hc]
      have key : jn z ([] :: (splitF r).map dotL) = z ++ dotG z true r := by
        rw [jn_cons (by rw [e]; nofun), ih1, List.nil_append]
      refine ⟨?_, fun a' t' e' => ?_⟩
      · rw [es, List.map_cons]
        show jn z ([] :: _) = _
        rw [key, dotG, if_pos hc]
      · rw [es] at e'
        injection e' with h1 h2
        rw [← h1, ← h2, key, dotG, if_pos hc]
    · have es : splitF (c :: r) = (c :: a) :: t := by rw [splitF, if_neg hc, e]; rfl
      have ih3 := ih2 a t e
      refine ⟨?_, fun a' t' e' => ?_⟩
      · rw [es, List.map_cons, dotG, if_neg hc]
        by_cases hd : c = 46
        · rw [show dotL (c :: a) = 46 :: c :: a from by unfold dotL; rw [if_pos (by simp [hd])], jn_head, jn_head, ih3, if_pos (by simp [hd]), hd]
        · rw [show dotL (c :: a) = c :: a from by unfold dotL; rw [if_neg (by simp [hd])], jn_head, ih3, if_neg (by simp [hd])]
      · rw [es] at e'
        injection e' with h1 h2
        rw [← h1, ← h2, jn_head, ih3, dotG, if_neg hc]
        simp
theorem dotG_lf : ∀ (l : List Nat) (b : Bool), dotG [10] b l = dotF b l
  | [], _ => rfl
  | c :: r, b => by
    have h1 := dotG_lf r true
    have h2 := dotG_lf r false
    by_cases hc : c = 10
    · rw [dotG, if_pos hc, h1, dotF, hc]; simp
    · rw [dotG, if_neg hc, dotF, h2, show (c == 10) = false by simpa using hc]
theorem dotG_fix : ∀ (l : List Nat) (b : Bool), dotG [13, 10] b (lfF l) = dotF b (fixF false l)
  | [], _ => rfl
  | c :: r, b => by
    have h1 := dotG_fix r true
    have h2 := dotG_fix r false
    by_cases h : c = 13 ∧ r.head? = some 10
    · rw [lf_crlf h, h.1]
      cases r with
      | nil => simp at h
      | cons d r =>
        have h3 : d = 10 := by simpa using h.2
        have h4 := dotG_fix (d :: r) b
        rw [h4, h3]
        simp [fixF, dotF]
    · rw [lf_cr h]
      by_cases hc : c = 13
      · have hr : r.head? ≠ some 10 := fun e => h ⟨hc, e⟩
        rw [if_pos hc, dotG, if_pos rfl, h1, hc]
        simp [fixF, fixF_true hr, dotF]
      · rw [if_neg hc]
        by_cases hd : c = 10
        · rw [dotG, if_pos hd, h1, hd]; simp [fixF, dotF]
        · rw [dotG, if_neg hd, h2, fixF, if_neg hd, if_neg hc, dotF, show (c == 10) = false by simpa using hd]
/-! ### the pages, as texts -/
theorem tx_eq {x : Str} {l : List Nat} (h : x.cps.toList = l) : x = tx l := by
  obtain ⟨a⟩ := x
  unfold tx
  rw [← h]
theorem lf_eq (x : Str) : (lfs x).cps.toList = lfF x.cps.toList := by
  obtain ⟨ps, h1, h2⟩ := replace_PL x (Str.ofString "\r\n") (Str.ofString "\n") (by decide +kernel)
  obtain ⟨qs, h3, h4⟩ := replace_PL (Txt.replace x (Str.ofString "\r\n") (Str.ofString "\n")) (Str.ofString "\r") (Str.ofString "\n") (by decide +kernel)
  have e1 : (Txt.replace x (Str.ofString "\r\n") (Str.ofString "\n")).cps.toList = rep2 x.cps.toList := h2.trans (PL_rep2 h1)
  rw [e1] at h3
  exact h4.trans (PL_map h3)
theorem split_eq (x : Str) : (Txt.split x (Str.ofString "\n")).map (·.cps.toList) = splitF x.cps.toList := by
  obtain ⟨ps, h1, h2⟩ := split_PL x (Str.ofString "\n") (by decide +kernel)
  rw [h2]; exact PL_split h1
theorem slice_ix0 : Builtin.Str.strSliceIndices none (some 1) 1 0 = [] := by decide +kernel
theorem slice_ix (n : Nat) : Builtin.Str.strSliceIndices none (some 1) 1 (n + 1) = [0] := by
  have e : max (0 : Int) (min 1 ((n + 1 : Nat) : Int)) = 1 := by omega
  simp only [Builtin.Str.strSliceIndices, sliceRange, show ((1 : Int) > 0) = True from by simp, if_true, show ¬ ((1 : Int) < 0) by decide, if_false, e]
  rfl
theorem slice1 (x : Str) : (Txt.slice x none (some 1)).cps.toList = x.cps.toList.take 1 := by
  obtain ⟨⟨l⟩⟩ := x
  unfold Txt.slice
  cases l with
  | nil => rfl
  | cons c r =>
    have e : (Str.length ⟨⟨c :: r⟩⟩) = r.length + 1 := rfl
    rw [e, slice_ix]
    cases r with
    | nil => rfl
    | cons d r => rfl
theorem dotRow_eq (x : Str) : (dotRow x).cps.toList = dotL x.cps.toList := by
  unfold dotRow dotL
  have h := slice1 x
  have hd : (Str.ofString ".").cps.toList = [46] := by decide +kernel
  by_cases hc : x.cps.toList.head? = some 46
  · have e : Txt.slice x none (some 1) = Str.ofString "." := by
      refine Str.ext' (Array.toList_inj.mp ?_)
      rw [h, hd]
      cases hl : x.cps.toList with
      | nil => rw [hl] at hc; cases hc
      | cons a r => rw [hl] at hc; injection hc with hc; rw [hc]; rfl
    rw [if_pos hc, e, if_pos (by simp), Str.cps_append, Array.toList_append, hd]
    rfl
  · have e : ¬ ((Txt.slice x none (some 1) == Str.ofString ".") = true) := by
      intro e
      have e := eq_of_beq e
      rw [e, hd] at h
      cases hl : x.cps.toList with
      | nil => rw [hl] at h; cases h
      | cons a r =>
        rw [hl] at h hc
        have : (46 : Nat) = a := by simpa using h
        exact hc (by rw [← this]; rfl)
    rw [if_neg hc, if_neg e]
theorem rows_map (xs : List Str) : (xs.map dotRow).map (·.cps.toList) = (xs.map (·.cps.toList)).map dotL := by
  rw [List.map_map, List.map_map]
  exact List.map_congr_left fun x _ => dotRow_eq x
theorem nl_list : (Str.ofString "\n").cps.toList = [10] := by decide +kernel
theorem crlf_list : (Str.ofString "\r\n").cps.toList = [13, 10] := by decide +kernel
theorem page0 (x : Str) : Txt.join (Str.ofString "\r\n") (Txt.split (lfs x) (Str.ofString "\n")) = tx (fixF false x.cps.toList) :=
  tx_eq (by rw [txt_join, split_eq, lf_eq, crlf_list, jn_split, flat_fix])
theorem page1 (x : Str) : Txt.join (Str.ofString "\r\n") ((Txt.split (lfs x) (Str.ofString "\n")).map dotRow) = tx (dotF true (fixF false x.cps.toList)) :=
  tx_eq (by rw [txt_join, rows_map, split_eq, lf_eq, crlf_list, (jn_dots _ _).1, dotG_fix])
theorem page2 (x : Str) : Txt.join (Str.ofString "\n") ((Txt.split x (Str.ofString "\n")).map dotRow) = tx (dotF true x.cps.toList) :=
  tx_eq (by rw [txt_join, rows_map, split_eq, nl_list, (jn_dots _ _).1, dotG_lf])
end PartPL2
section PartFn10
open PySem PySem.W PyProof.Rows
set_option maxRecDepth 100000
set_option maxHeartbeats 4000000
open PySem.Calls
theorem led_isList {h₀ h : Heap} {L a : Addr} {news : List (Addr × Obj)} {o : Obj} {its : Array Value} {n : Nat} (N : News h₀ L h news) (hm : (a, o) ∈ news) (hc : o.cls = .type "list") (hd : o.data = .seq its n) : h.IsList a its := ⟨o, (N _ hm).1, hc, n, hd⟩
theorem allObj_mono : ∀ {ws : List (Addr × String)} {k k' : List (Addr × Obj) → Prop}, AllObj ws k → (∀ its, its.map (·.1) = ws.map (·.1) → k its → k' its) → AllObj ws k'
  | [], _, _, h, hk => hk [] rfl h
  | w :: _, _, _, h, hk => fun o ho => allObj_mono (h o ho) fun its e hi => hk ((w.1, o) :: its) (by simp [e]) hi
theorem subL_of : ∀ {l all : List (Addr × Obj)}, (∀ p ∈ l, p ∈ all) → SubL l all
  | [], _, _ => trivial
  | p :: _, _, h => ⟨h p (.head _), subL_of fun q hq => h q (.tail _ hq)⟩
section
variable {prog : Program} {w : World} {A : Around} {E : Value → Shared → Prop} {s : Shared} {env : Env} {h₀ : Heap} {target : Expr} {body : List Stmt} {Q : Flow → Shared → Prop} {σ : Type}
/-- a loop over written items, turn by turn, by what holds between two turns -/
theorem items_by {ws : List (Addr × String)} {keep : List (Addr × Obj)} {adr : List Addr} (Led : σ → List (Addr × Obj)) (ps : σ → List (Str × Value)) (P : σ → Prop) (xs₀ : List Itm)
    (hadr : ∀ c, (Led c).map (·.1) = adr) (hoff : ∀ b ∈ adr, ∀ q ∈ ws, b ≠ q.1) (hkeep : ∀ c, P c → SubL keep (Led c))
    (turn : ∀ (c : σ) (a : Itm) (v : Value) (u : Str → Option Value) h tk, a ∈ xs₀ → a.Is v h → P c → Fr h₀ env.locals h (kstB u (ps c)) → AllObj ws fun its => News h₀ env.locals h (its ++ Led c) →
      wpAny (model prog w) A (assign target env v) (fun _ s₂ => wpAny (model prog w) A (execs body env) (InvPostN h₀ env.locals (KS Led ps (fun _ => P) 0) its adr { s with heap := h, toks := tk } Q) E s₂) E { s with heap := h, toks := tk })
    (done : ∀ (c : σ) (u : Str → Option Value) h tk, P c → Fr h₀ env.locals h (kstB u (ps c)) → News h₀ env.locals h (Led c) → Q .next { s with heap := h, toks := tk }) :
    ∀ (xs : List Itm), (∀ a ∈ xs, a ∈ xs₀) → ∀ (m : Str → Option Value) (c : σ), (∀ p ∈ ps c, m p.1 = some p.2) → P c → ItemsRest prog w A E h₀ env target body Q s ws keep xs m (Led c)
  | [], _, m, c, hm, hp => fun h tk F N => by
    rw [← kstB_of hm] at F
    exact done c m h tk hp F N
  | a :: r, hx, m, c, hm, hp => fun v h tk hv F => by
    rw [← kstB_of hm] at F
    refine allObj_mono (turn c a v m h tk (hx a (.head _)) hv hp F) fun its hits H N => ?_
    refine wpAny_mono (H N) (fun _ s₂ h₂ => wpAny_mono h₂ (fun f s₃ h₃ => ?_) fun _ _ e => e) fun _ _ e => e
    have fin : InvEndN h₀ env.locals (KS Led ps (fun _ => P) 0) its adr { s with heap := h, toks := tk } s₃ →
        UnrEndW h₀ env.locals { s with heap := h, toks := tk } its (fun m' n' => SubL keep n' ∧ ItemsRest prog w A E h₀ env target body Q s ws keep r m' n') s₃ := by
      rintro ⟨h', tk', m', news', nx, rfl, F', N', hn, ho, ha, c', rfl, hm', hp'⟩
      refine ⟨h', tk', m', Led c', rfl, F', fun p hp => ?_, fun p hp q hq e => ?_, hkeep c' hp', items_by Led ps P xs₀ hadr hoff hkeep turn done r (fun a ha => hx a (.tail _ ha)) m' c' hm' hp'⟩
      · rcases List.mem_append.mp hp with hp | hp
        · exact N' p (ho p hp)
        · exact N' p (hn p hp)
      · have h1 : p.1 ∈ adr := by rw [← hadr c']; exact List.mem_map.mpr ⟨p, hp, rfl⟩
        have h2 : q.1 ∈ its.map (·.1) := List.mem_map.mpr ⟨q, hq, rfl⟩
        rw [hits] at h2
        obtain ⟨z, hz, hz2⟩ := List.mem_map.mp h2
        exact hoff p.1 h1 z hz (by rw [e, hz2])
    cases f with
    | ret v => exact h₃
    | brk => exact h₃
    | next => exact fin h₃
    | cont => exact fin h₃
end
section
variable {prog : Program} {w : World} {A : Around} {E : Value → Shared → Prop} {s : Shared} {h₀ : Heap} {L : Addr} {m : Str → Option Value} {env : Env}
open PyProof.Rows.LCg PyProof.Rows.LCt
/-- where the source of a comprehension with a test is a text of signs below 128 -/
def SrcS (prog : Program) (w : World) (A : Around) (h₀ : Heap) (L : Addr) (m : Str → Option Value) (env : Env) (ct elt : Expr) (x : Str) (scope : Scope) (cl : List (Str × Addr)) (Fin : Shared → List Value → List (Addr × Obj) → Prop) (xv : Value) (s₁ : Shared) : Prop :=
  ∃ xt tx news, xv = .str xt tx ∧ A.handled = none ∧ Fr h₀ L s₁.heap m ∧ News h₀ L s₁.heap news ∧ xt.cps.all (· < 128) = true ∧ xt.cps.size ≤ sizeLine ∧
    ∀ s₂ : Shared, (∃ h, s₂ = { s₁ with heap := h }) → CompRestT prog w A h₀ L m env ct elt x scope cl s₂ (fun _ => True) (SignAt xt) (Fin s₂) xt.cps.size 0 [] news
theorem ascii_st {I : Addr} {x : Str} {t : Tok} : ∀ i (h h' : Heap) (o : Obj) (nw : List (Addr × Obj)), h.IsStrIter I "str_ascii_iterator" x t i → h.get? I = some o → h'.get? I = some o → (∀ b o, h₀.get? b = some o → h'.get? b = some o) → News h₀ L h' nw → True → h'.IsStrIter I "str_ascii_iterator" x t i :=
  fun i h h' o nw st e e' _ _ _ => by
    obtain ⟨o', q, r⟩ := st
    rw [e] at q; cases q
    exact ⟨o, e', r⟩
theorem Assign_ListComp_S {ct elt iter : Expr} {x y : Str} {px py : Pos} {scope : Scope} {cl : List (Str × Addr)} {pos spos : Pos} {Q : Flow → Shared → Prop} (_F₀ : Fr h₀ L s.heap m) (hLe : env.locals = L)
    (hsw : swapsWith (.ListComp elt [⟨.Name x px, iter, [ct], 0⟩] scope pos) (some (.Name y py)) spos.line env = pure true)
    (hclos : closureFor scope env = pure cl) (hcell : ∀ z ∈ scope.names, z.2 ≠ .cell) (hkind : scope.kind = .function)
    (hnames : ∀ z ∈ scope.names, z.2 = .local → scope.names.lookup z.1 = some .local) (hx : scope.names.lookup x = some .local)
    (hy : env.kindOf y = some .local) (hp : (env.scope.kind == .class || (env.scope.kind == .module && env.locals != env.globals)) = false)
    (h : wpAny (model prog w) A (eval iter env) (SrcS prog w A h₀ L m env ct elt x scope cl (fun s₂ => FinA h₀ L m s₂ y Q)) E s)
    (hs : ∀ x, foldedSetIterable iter env x = pure x := by intro _; rfl) :
    wpAny (model prog w) A (exec (.Assign [.Name y py] (.ListComp elt [⟨.Name x px, iter, [ct], 0⟩] scope pos) spos) env) Q E s := by
  subst hLe
  rw [exec_Assign_Name_used _ _ _ _ hsw]
  refine wpAny_bind (wpAny_standAt (wpAny_bind ?_))
  show wpAny _ A (do let _ ← comprehension (.ListComp elt [⟨.Name x px, iter, [ct], 0⟩] scope pos) scope env _ (newList []) false (eval iter env) (some (assign (.Name y py) env))) _ _ s
  refine wpAny_bind (wpAny_mono (wpAny_comprehension_free (use := some (assign (.Name y py) env)) (Q := fun _ s' => Q .next s') rfl hs hclos hkind hnames
    (wpAny_mono h (fun xv s₁ h₁ => ?_) fun _ _ e => e)) (fun _ s' hq => wpAny_pure (wpAny_pure hq)) fun _ _ e => e)
  obtain ⟨xt, tx, news, rfl, hh, F, N, ha, hsz, R⟩ := h₁
  refine wpAny_pyIter_ascii ha ?_
  have up : ∀ (ob : Obj) b o, s₁.heap.get? b = some o → (s₁.heap.push ob).get? b = some o := fun ob b o e => Heap.get?_push_of_some _ e
  refine block_T (Walks.strAscii hh s₁.heap.objs.size xt tx) hsz (fun i h st => by obtain ⟨o, e, _⟩ := st; exact ⟨o, e⟩) ascii_st hcell hkind hx ⟨_, Heap.get?_push_size _ rfl, rfl, rfl⟩ (fun b hb => ?_)
    (F.keeps (up _)) (N.grown (up _)) (Nat.ne_of_lt F.ns.lt) (next_is_new F) (fun p hp => Nat.ne_of_lt (Heap.lt_size (N p hp).1)) trivial (R _ ⟨_, rfl⟩) ?_
  · rw [List.mem_singleton.mp hb]
    show s₁.heap.objs.size < (s₁.heap.push _).objs.size
    rw [Heap.size_push]; exact Nat.lt_succ_self _
  · intro D C h' tk m' ys news' F' N' o1 hn hC₀ hD₀ hCL hDL hCD offC fin
    show wpAny _ A (assign (.Name y py) env (.ref D)) _ _ _
    refine wpAny_assign_Name (wpAny_storeName_local hy F'.ns (fun h₂ hn₂ hs₂ => ?_) hp)
    have hL₀ : h₀.get? env.locals = none := Heap.get?_none_of_le F'.above
    have F₂ : Fr h₀ env.locals h₂ (fun z => if z = y then some (.ref D) else m z) := ⟨hn₂, fun b o e => hs₂.extBut b o (fun q => by rw [q, hL₀] at e; cases e) (F'.keep b o e), F'.above⟩
    refine ⟨m', hn.sameBut hs₂ hCL, fun h'' hs'' => fin D h'' _ (F₂.change hs'' hCL hC₀) (fun p hp => ?_) o1⟩
    have z : h₂.get? p.1 = some p.2 := hs₂.extBut _ _ (N' p hp).2.1 (N' p hp).1
    refine ⟨hs''.extBut _ _ ?_ z, (N' p hp).2⟩
    rcases List.mem_cons.mp hp with rfl | hp
    · exact Ne.symm hCD
    · exact offC p hp
/-- a comprehension with a test, by what holds of the values so far -/
theorem comp_restT {ct elt : Expr} {x : Str} {scope : Scope} {cl : List (Str × Addr)} {S : List (Addr × Obj) → Prop} {P : Nat → Value → Prop} {Fin : List Value → List (Addr × Obj) → Prop} {news : List (Addr × Obj)} {n : Nat} (R : Nat → List Value → Prop) (h0 : R 0 [])
    (turn : ∀ i v I oI C oC D m₂ ys h tk (E' : Value → Shared → Prop), i < n → P i v → R i ys → NsObj oC m₂ → m₂ x = some v → Fr h₀ L h m → News h₀ L h ((I, oI) :: (C, oC) :: (D, lst ys) :: news) → Off3 I C D news → ((@Ne Nat I C) ∧ (@Ne Nat I D) ∧ (@Ne Nat C D)) →
      wpAny (model prog w) A (isTrue ct (compEnvC scope cl C env) (eval ct (compEnvC scope cl C env))) (fun ok s' => if ok = true then
        wpAny (model prog w) A (eval elt (compEnvC scope cl C env)) (CompEnd h₀ L m { s with heap := h, toks := tk } I oI C oC D (lst ys) S (fun y => ElEnd news (fun y => R (i + 1) (ys ++ [y])) y)) E' s'
        else CompEnd h₀ L m { s with heap := h, toks := tk } I oI C oC D (lst ys) S (fun _ => ElEnd news (fun _ => R (i + 1) ys) .none) Value.none s') E' { s with heap := h, toks := tk })
    (fin : ∀ ys : List Value, R n ys → Fin ys news) : CompRestT prog w A h₀ L m env ct elt x scope cl s S P Fin n 0 [] news := by
  have key : ∀ (j i : Nat) (ys : List Value), i + j = n → R i ys → CompRestT prog w A h₀ L m env ct elt x scope cl s S P Fin j i ys news := by
    intro j
    induction j with
    | zero =>
      intro i ys hi hy
      have hi : i = n := hi
      exact CompRestT.zero (fin ys (hi ▸ hy))
    | succ j ih =>
      intro i ys hi hy
      refine CompRestT.succ ?_
      intro v I oI C oC D m₂ h tk E' hP hC hx F N off ne
      refine wpAny_mono (turn i v I oI C oC D m₂ ys h tk E' (by omega) hP hy hC hx F N off ne) (fun ok s' hend => ?_) fun _ _ e => e
      cases ok with
      | true =>
        simp only [if_true] at hend ⊢
        refine wpAny_mono hend (fun y s'' h2 => ?_) fun _ _ e => e
        obtain ⟨h', tk', news', e1, F', N', off', hS, rfl, hG⟩ := h2
        exact ⟨h', tk', _, e1, F', N', off', hS, ih (i + 1) (ys ++ [y]) (by omega) hG⟩
      | false =>
        simp only [Bool.false_eq_true, if_false] at hend ⊢
        obtain ⟨h', tk', news', e1, F', N', off', hS, rfl, hG⟩ := hend
        exact ⟨h', tk', _, e1, F', N', off', hS, ih (i + 1) ys (by omega) hG⟩
  exact key n 0 [] (by omega) h0
end
section
variable {prog : Program} {w : World} {A : Around} {E : Value → Shared → Prop} {s : Shared} {Q : Value → Shared → Prop}
open PySem.Builtin.Str
theorem at_one (x : Str) (c i : Nat) : StrLaws.At x ⟨#[c]⟩ x.length i ↔ x.cps.toList[i]? = some c := StrLaws.subAt_one x c i
theorem occ_idx {x : Str} {c : Nat} (h : c ∈ x.cps.toList) : ∃ r, occurrences x ⟨#[c]⟩ 0 x.length 1 = x.cps.toList.idxOf c :: r := by
  have hlt := List.idxOf_lt_length_of_mem h
  have hget : x.cps.toList[x.cps.toList.idxOf c]? = some c := by rw [List.getElem?_eq_getElem hlt, List.getElem_idxOf hlt]
  rcases StrLaws.occ_head x ⟨#[c]⟩ 1 (Nat.le_refl _) with ⟨_, hn⟩ | ⟨i, r, e, hi, hk⟩
  · exact absurd ((at_one x c _).mpr hget) (hn _)
  · refine ⟨r, ?_⟩
    rw [e]
    congr 1
    have hi' := (at_one x c i).mp hi
    have h1 : ¬ (x.cps.toList.idxOf c < i) := fun hl => hk _ hl ((at_one x c _).mpr hget)
    have h2 : ¬ (i < x.cps.toList.idxOf c) := fun hl => by
      have := List.not_of_lt_findIdx (p := (· == c)) (xs := x.cps.toList) (i := i) hl
      obtain ⟨hlt', e2⟩ := List.getElem?_eq_some_iff.mp hi'
      rw [e2] at this
      simp at this
    omega
theorem index_sign {x : Str} {c : Nat} {t u : Tok} (h : (!(occurrences x ⟨#[c]⟩ 0 x.length 1).isEmpty) = true) (hq : Q (.int ((x.cps.toList.idxOf c : Nat) : Int) s.toks) { s with toks := s.toks + 1 }) : wpAny (model prog w) A (call (.builtin "str.index") [.str x t, .str ⟨#[c]⟩ u]) Q E s := by
  rw [StrLaws.found_one, decide_eq_true_eq] at h
  obtain ⟨r, e⟩ := occ_idx h
  exact SC.index e hq
end
end PartFn10
section PartFn11
open PySem PySem.W PyProof.Rows
set_option maxRecDepth 100000
set_option maxHeartbeats 4000000
open PySem.Calls
theorem news_new {h₀ h : Heap} {L a : Addr} {news : List (Addr × Obj)} (N : News h₀ L h news) (hn : h.get? a = none) : ∀ p ∈ news, @Ne Nat p.1 a := fun p hp e => by
  have := (N p hp).1
  rw [show p.1 = a from e, hn] at this; cases this
section
variable {prog : Program} {w : World} {A : Around} {E : Value → Shared → Prop} {s : Shared} {env : Env} {h₀ : Heap} {target : Expr} {body : List Stmt} {Q : Flow → Shared → Prop}
/-- the outer loop's ledger: two things stand, one cell turns -/
abbrev outLed (p1 p2 : Addr × Obj) (b : Addr) (o : Obj) : List (Addr × Obj) := [p1, p2, (b, o)]
theorem news_drop {h₀ h : Heap} {L : Addr} {p1 p2 p3 p4 q : Addr × Obj} (N : News h₀ L h [p1, p2, p3, p4, q]) : News h₀ L h [p1, p2, q] :=
  fun p hp => N p (by
    rcases List.mem_cons.mp hp with rfl | hp
    · exact .head _
    rcases List.mem_cons.mp hp with rfl | hp
    · exact .tail _ (.head _)
    · rw [List.mem_singleton.mp hp]; exact .tail _ (.tail _ (.tail _ (.tail _ (.head _)))))
abbrev outPs (fv ov : Value) (_ : Obj) : List (Str × Value) := [(Str.ofString "figures", fv), (Str.ofString "octets", ov)]
def outP (o : Obj) : Prop := ∃ x, o.data = .cell x
theorem outer_by {I : Addr} {p1 p2 : Addr × Obj} {b : Addr} {o : Obj} {fv ov : Value} {xs : List Itm} {m : Str → Option Value}
    (hI : ∀ p ∈ [p1, p2, (b, o)], p.1 < I) (hf : m (Str.ofString "figures") = some fv) (ho : m (Str.ofString "octets") = some ov) (hd : outP o)
    (turn : ∀ (o : Obj) (a : Itm) (v : Value) (u : Str → Option Value) h tk, a ∈ xs → a.Is v h → outP o → Fr h₀ env.locals h (kstB u [(Str.ofString "figures", fv), (Str.ofString "octets", ov)]) → AllObj [(I, "list_iterator")] fun its => News h₀ env.locals h (its ++ [p1, p2, (b, o)]) →
      wpAny (model prog w) A (assign target env v) (fun _ s₂ => wpAny (model prog w) A (execs body env) (InvPostN h₀ env.locals (KS (outLed p1 p2 b) (outPs fv ov) (fun _ => outP) 0) its [p1.1, p2.1, b] { s with heap := h, toks := tk } Q) E s₂) E { s with heap := h, toks := tk })
    (done : ∀ (o : Obj) (u : Str → Option Value) h tk, Fr h₀ env.locals h (kstB u [(Str.ofString "figures", fv), (Str.ofString "octets", ov)]) → News h₀ env.locals h [p1, p2, (b, o)] → Q .next { s with heap := h, toks := tk }) :
    ItemsRest prog w A E h₀ env target body Q s [(I, "list_iterator")] [p1] xs m [p1, p2, (b, o)] := by
  refine items_by (σ := Obj) (adr := [p1.1, p2.1, b]) (outLed p1 p2 b) (outPs fv ov) outP xs (fun _ => rfl) ?_ ?_ turn (fun c u h tk _ F N => done c u h tk F N) xs (fun _ h => h) m o ?_ hd
  · intro a ha q hq
    rw [List.mem_singleton.mp hq]
    have : a ∈ [p1, p2, (b, o)].map (·.1) := ha
    obtain ⟨p, hp, rfl⟩ := List.mem_map.mp this
    exact Nat.ne_of_lt (hI p hp)
  · intro c _; exact ⟨.head _, trivial⟩
  · exact List.forall_mem_cons.mpr ⟨hf, List.forall_mem_cons.mpr ⟨ho, List.forall_mem_nil _⟩⟩
/-- the inner loop's: nothing turns -/
theorem inner_by {I : Addr} {q1 q2 : Addr × Obj} {rest : List (Addr × Obj)} {fv ov tv : Value} {xs : List Itm} {m : Str → Option Value}
    (hI : ∀ p ∈ q1 :: q2 :: rest, p.1 < I) (hf : m (Str.ofString "figures") = some fv) (ho : m (Str.ofString "octets") = some ov) (ht : m (Str.ofString "two") = some tv)
    (turn : ∀ (a : Itm) (v : Value) (u : Str → Option Value) h tk, a ∈ xs → a.Is v h → Fr h₀ env.locals h (kstB u [(Str.ofString "figures", fv), (Str.ofString "octets", ov), (Str.ofString "two", tv)]) →
      AllObj [(I + 4, "zip"), (I + 2, "tuple"), (I + 3, "tuple"), (I, "list_iterator"), (I + 1, "list_iterator")] fun its => News h₀ env.locals h (its ++ q1 :: q2 :: rest) →
      wpAny (model prog w) A (assign target env v) (fun _ s₂ => wpAny (model prog w) A (execs body env) (InvPostN h₀ env.locals (KS (fun _ : Unit => q1 :: q2 :: rest) (fun _ => [(Str.ofString "figures", fv), (Str.ofString "octets", ov), (Str.ofString "two", tv)]) (fun _ _ => True) 0) its ((q1 :: q2 :: rest).map (·.1)) { s with heap := h, toks := tk } Q) E s₂) E { s with heap := h, toks := tk })
    (done : ∀ (u : Str → Option Value) h tk, Fr h₀ env.locals h (kstB u [(Str.ofString "figures", fv), (Str.ofString "octets", ov), (Str.ofString "two", tv)]) → News h₀ env.locals h (q1 :: q2 :: rest) → Q .next { s with heap := h, toks := tk }) :
    ItemsRest prog w A E h₀ env target body Q s [(I + 4, "zip"), (I + 2, "tuple"), (I + 3, "tuple"), (I, "list_iterator"), (I + 1, "list_iterator")] [q1, q2] xs m (q1 :: q2 :: rest) := by
  refine items_by (σ := Unit) (adr := (q1 :: q2 :: rest).map (·.1)) (fun _ => q1 :: q2 :: rest) (fun _ => [(Str.ofString "figures", fv), (Str.ofString "octets", ov), (Str.ofString "two", tv)]) (fun _ => True) xs (fun _ => rfl) ?_ ?_ (fun _ a v u h tk ha hv _ F => turn a v u h tk ha hv F) (fun _ u h tk _ F N => done u h tk F N) xs (fun _ h => h) m () ?_ trivial
  · intro a ha q hq
    obtain ⟨p, hp, rfl⟩ := List.mem_map.mp ha
    have h1 := hI p hp
    rcases List.mem_cons.mp hq with rfl | hq
    · exact ktu_ne 4 h1
    rcases List.mem_cons.mp hq with rfl | hq
    · exact ktu_ne 2 h1
    rcases List.mem_cons.mp hq with rfl | hq
    · exact ktu_ne 3 h1
    rcases List.mem_cons.mp hq with rfl | hq
    · exact Nat.ne_of_lt h1
    · rw [List.mem_singleton.mp hq]; exact ktu_ne 1 h1
  · intro c _; exact ⟨.head _, .tail _ (.head _), trivial⟩
  · exact List.forall_mem_cons.mpr ⟨hf, List.forall_mem_cons.mpr ⟨ho, List.forall_mem_cons.mpr ⟨ht, List.forall_mem_nil _⟩⟩⟩
end
end PartFn11
section PartFn12
open PySem PySem.W PyProof.Rows
set_option maxRecDepth 100000
set_option maxHeartbeats 4000000
open PySem.Calls
def twos : List Str := [Str.ofString "\n.", Str.ofString ".\n", Str.ofString "\r.", Str.ofString ".\r", Str.ofString "\n\r", Str.ofString "\r\n"]
def signsOf (two : Str) : Str := Str.ofString "ABCDEFGHIJKLMNOPQRSTUVWXYZabcdefghijklmnopqrstuvwxyz0123456789" ++ two
def signAt (two : Str) (f : Int) : Str := Txt.item (signsOf two) f
def textFig (two : Str) (F : List Int) : Str := Txt.join (Str.ofString "") (F.map (signAt two))
def page (k : Nat) (two : Str) (F : List Int) : Str :=
  if k = 0 then tx (fixF false (textFig two F).cps.toList) else if k = 1 then tx (dotF true (fixF false (textFig two F).cps.toList)) else tx (dotF true (textFig two F).cps.toList)
/-- the figures of the signs of a text -/
def dueOf (two : Str) (l : List Nat) : List Int := (l.filter fun c => decide (c ∈ (signsOf two).cps.toList)).map fun c => (((signsOf two).cps.toList.idxOf c : Nat) : Int)
structure PageOk (two P : Str) : Prop where
  two_in : two ∈ twos
  small : P.length ≤ 100
  signs : ∀ c ∈ P.cps.toList, c ∈ (signsOf two).cps.toList ∨ c = 10 ∨ c = 13 ∨ c = 46
theorem two_of {v : Value} {h : Heap} : ∀ {vs : List Value} {ts : List Str}, StrsAre vs ts → ∀ {a : Itm}, a ∈ vs.map Itm.val → a.Is v h → ∃ x t, x ∈ ts ∧ v = .str x t
  | _, _, .nil, a, ha, _ => by cases ha
  | _, _, .cons x t r, a, ha, hv => by
    rcases List.mem_cons.mp ha with rfl | ha
    · exact ⟨x, t, .head _, hv⟩
    · obtain ⟨x, t, h1, h2⟩ := two_of r ha hv
      exact ⟨x, t, .tail _ h1, h2⟩
theorem strs3 {vs : List Value} {a b c : Str} (h : StrsAre vs [a, b, c]) : ∃ t1 t2 t3, vs = [.str a t1, .str b t2, .str c t3] := by
  cases h with
  | cons _ t1 h => cases h with
    | cons _ t2 h => cases h with
      | cons _ t3 h => cases h; exact ⟨t1, t2, t3, rfl⟩
theorem ints_at : ∀ {vs : List Value} {xs : List Int}, IntsAre vs xs → ∀ {i : Nat} {v : Value}, vs[i]? = some v → ∃ x t, xs[i]? = some x ∧ v = .int x t
  | _, _, .nil, i, v, h => by simp at h
  | _, _, .cons y t r, 0, v, h => by simp at h; exact ⟨y, t, by simp, h.symm⟩
  | _, _, .cons y t r, i + 1, v, h => by
    simp only [List.getElem?_cons_succ] at h ⊢
    exact ints_at r h
theorem ints_len {vs : List Value} {xs : List Int} (h : IntsAre vs xs) : vs.length = xs.length := h.length
/-- the pairs of the zip -/
theorem pairs3 {a b c : Str} {t1 t2 t3 u1 u2 u3 : Tok} {G : Str → Prop} (ha : G a) (hb : G b) (hc : G c) {it : Itm} (h : it ∈ zipItems [.str a t1, .str b t2, .str c t3] [.str a u1, .str b u2, .str c u3]) : ∃ P t u, G P ∧ it = .pair (fun _ => .str P t) (.str P u) := by
  simp only [zipItems, List.mem_cons, List.not_mem_nil, or_false] at h
  rcases h with rfl | rfl | rfl
  · exact ⟨_, _, _, ha, rfl⟩
  · exact ⟨_, _, _, hb, rfl⟩
  · exact ⟨_, _, _, hc, rfl⟩
theorem figs_range {ns : List Int} : ∀ x ∈ figsOf ns, 0 ≤ x ∧ x < 64 := by
  intro x hx
  unfold figsOf at hx
  rcases List.mem_append.mp hx with hx | hx
  · rcases List.mem_append.mp hx with hx | hx
    · simp only [List.mem_cons, List.not_mem_nil, or_false] at hx; omega
    · have := (List.mem_replicate.mp hx).2; omega
  · obtain ⟨y, _, rfl⟩ := List.mem_map.mp hx
    unfold figOf
    have h1 : (y.fdiv 3).fmod 64 < 64 := Int.fmod_lt_of_pos _ (by decide)
    have h2 : 0 ≤ (y.fdiv 3).fmod 64 := Int.fmod_nonneg_of_pos _ (by decide)
    (repeat' split) <;> omega
theorem figs_four {ns : List Int} : ∃ k, (figsOf ns).length = 4 * k ∧ 2 ≤ k ∧ k ≤ 5 := by
  unfold figsOf
  simp only [List.length_append, List.length_cons, List.length_nil, List.length_replicate, List.length_map, List.length_take]
  generalize hm : min 12 ns.length = m
  have hm2 : m ≤ 12 := by omega
  have h1 : (-(m : Int)).fmod 4 = (-(m : Int)) % 4 := Int.fmod_eq_emod_of_nonneg _ (by decide)
  rw [h1]
  exact ⟨(8 + ((-(m : Int)) % 4).toNat + m) / 4, by omega, by omega, by omega⟩
theorem figs_len {ns : List Int} : (figsOf ns).length ≤ 100 := by
  obtain ⟨k, h, _, h2⟩ := figs_four (ns := ns); omega
theorem figs_size {vs : List Value} {ns : List Int} (h : IntsAre vs (figsOf ns)) : vs.toArray.size ≤ sizeLine := by
  have := figs_len (ns := ns)
  rw [List.size_toArray, ints_len h, sizeLine_eq]; omega
theorem cap63 {ns : List Int} {f : Int → Int} : (List.map f (List.take 63 ns)).length ≤ 63 := by simp; omega
theorem two_len {two : Str} (h : two ∈ twos) : two.length = 2 := by
  have : ∀ t ∈ twos, t.length = 2 := by decide +kernel
  exact this two h
theorem two_ascii {two : Str} (h : two ∈ twos) : ∀ c ∈ two.cps, c < 128 := by
  have : ∀ t ∈ twos, ∀ c ∈ t.cps.toList, c < 128 := by decide +kernel
  intro c hc
  exact this two h c (Array.mem_toList_iff.mpr hc)
theorem signs_len {two : Str} (h : two ∈ twos) : (signsOf two).length = 64 := by
  have := two_len h
  show (Str.ofString _ ++ two).length = 64
  rw [Str.length_append, this]
  decide +kernel
theorem signs_ascii {two : Str} (h : two ∈ twos) : ∀ c ∈ (signsOf two).cps.toList, c < 128 := by
  intro c hc
  have e : (signsOf two).cps.toList = (Str.ofString "ABCDEFGHIJKLMNOPQRSTUVWXYZabcdefghijklmnopqrstuvwxyz0123456789").cps.toList ++ two.cps.toList := by
    show (Str.ofString _ ++ two).cps.toList = _
    rw [Str.cps_append, Array.toList_append]
  rw [e] at hc
  rcases List.mem_append.mp hc with hc | hc
  · have : ∀ c ∈ (Str.ofString "ABCDEFGHIJKLMNOPQRSTUVWXYZabcdefghijklmnopqrstuvwxyz0123456789").cps.toList, c < 128 := by decide +kernel
    exact this c hc
  · exact two_ascii h c (Array.mem_toList_iff.mp hc)
theorem page_ascii {two P : Str} (h : PageOk two P) : P.cps.all (· < 128) = true := by
  rw [Array.all_eq_true_iff_forall_mem]
  intro c hc
  rcases h.signs c (Array.mem_toList_iff.mpr hc) with h1 | h1
  · exact decide_eq_true (signs_ascii h.two_in c h1)
  · exact decide_eq_true (by omega)
theorem page_size {two P : Str} (h : PageOk two P) : P.cps.size ≤ sizeLine := by
  have : P.cps.size ≤ 100 := h.small
  rw [sizeLine_eq]; omega
theorem due_range {two : Str} (h : two ∈ twos) (l : List Nat) : ∀ x ∈ dueOf two l, 0 ≤ x ∧ x < 64 := by
  intro x hx
  unfold dueOf at hx
  obtain ⟨c, hc, rfl⟩ := List.mem_map.mp hx
  have h1 : c ∈ (signsOf two).cps.toList := by simpa using (List.mem_filter.mp hc).2
  have h2 := List.idxOf_lt_length_of_mem h1
  have h3 : (signsOf two).cps.toList.length = 64 := signs_len h
  omega
theorem due_len (two : Str) (l : List Nat) : (dueOf two l).length ≤ l.length := by
  unfold dueOf
  rw [List.length_map]
  exact List.length_filter_le _ _
theorem due_snoc {two : Str} {l : List Nat} {c : Nat} : dueOf two (l ++ [c]) = if c ∈ (signsOf two).cps.toList then dueOf two l ++ [(((signsOf two).cps.toList.idxOf c : Nat) : Int)] else dueOf two l := by
  unfold dueOf
  rw [List.filter_append]
  split
  · rename_i h
    rw [List.filter_cons, if_pos (decide_eq_true h), List.map_append]; rfl
  · rename_i h
    rw [List.filter_cons, if_neg (by rw [decide_eq_true_eq]; exact h)]; simp
end PartFn12
section PartPL3
open PySem PySem.W PyProof.Rows
set_option maxRecDepth 100000
set_option maxHeartbeats 1000000
/-! ### digits -/
theorem shift6 (N v : Int) (e : Nat) (h0 : 0 ≤ v) (h1 : v < 64) : (N * 64 + v) / 2 ^ (e + 6) = N / 2 ^ e := by
  have e2 : (2 : Int) ^ (e + 6) = 64 * 2 ^ e := by rw [Int.pow_add, Int.mul_comm]; rfl
  rw [e2, ← Int.ediv_ediv_of_nonneg (by decide), show (N * 64 + v) / 64 = N by omega]
theorem shift8 (N v : Int) (e : Nat) (h0 : 0 ≤ v) (h1 : v < 256) : (N * 256 + v) / 2 ^ (e + 8) = N / 2 ^ e := by
  have e2 : (2 : Int) ^ (e + 8) = 256 * 2 ^ e := by rw [Int.pow_add, Int.mul_comm]; rfl
  rw [e2, ← Int.ediv_ediv_of_nonneg (by decide), show (N * 256 + v) / 256 = N by omega]
theorem num_cat (D : List Int) (v : Int) : numOf (D ++ [v]) = numOf D * 64 + v := by simp [numOf]
def octG (D : List Int) : List Int := (List.range (6 * D.length / 8)).map fun k => numOf D / 2 ^ (6 * D.length - 8 * (k + 1)) % 256
theorem octG_step (D : List Int) (v : Int) (h0 : 0 ≤ v) (h1 : v < 64) : octG (D ++ [v]) = octG D ++ (if D.length % 4 = 0 then [] else [(numOf D * 64 + v) / 2 ^ ((6 * D.length + 6) % 8) % 256]) := by
  unfold octG
  rw [num_cat, List.length_append, List.length_singleton]
  have same : ∀ k ∈ List.range (6 * D.length / 8), (numOf D * 64 + v) / 2 ^ (6 * (D.length + 1) - 8 * (k + 1)) % 256 = numOf D / 2 ^ (6 * D.length - 8 * (k + 1)) % 256 := fun k hk => by
    have hk := List.mem_range.mp hk
    rw [show 6 * (D.length + 1) - 8 * (k + 1) = (6 * D.length - 8 * (k + 1)) + 6 by omega, shift6 _ _ _ h0 h1]
  split
  · rw [show 6 * (D.length + 1) / 8 = 6 * D.length / 8 by omega, List.append_nil]
    exact List.map_congr_left same
  · rename_i hn4
    have h4 : D.length % 4 = 1 ∨ D.length % 4 = 2 ∨ D.length % 4 = 3 := by omega
    have e1 : 6 * (D.length + 1) / 8 = 6 * D.length / 8 + 1 := by rcases h4 with h4 | h4 | h4 <;> omega
    rw [e1, List.range_succ, List.map_append, List.map_congr_left same]
    congr 1
    simp only [List.map_cons, List.map_nil]
    have e2 : 6 * (D.length + 1) - 8 * (6 * D.length / 8 + 1) = (6 * D.length + 6) % 8 := by rcases h4 with h4 | h4 | h4 <;> omega
    rw [e2]
theorem octG_range (D : List Int) : ∀ x ∈ octG D, 0 ≤ x ∧ x < 256 := by
  intro x hx
  unfold octG at hx
  obtain ⟨k, _, rfl⟩ := List.mem_map.mp hx
  exact ⟨Int.emod_nonneg _ (by decide), Int.emod_lt_of_pos _ (by decide)⟩
theorem octG_len (D : List Int) : (octG D).length = 6 * D.length / 8 := by simp [octG]
theorem octF_eq (D : List Int) (h : ∀ x ∈ D, 0 ≤ x ∧ x < 64) : octF D = octG D := by
  have hN := (num_range h).1
  unfold octF octG rangeKs
  have e1 : ((D.length : Int) * 6).fdiv 8 = ((6 * D.length / 8 : Nat) : Int) := by rw [Int.fdiv_eq_ediv_of_nonneg _ (by decide)]; omega
  rw [e1]
  have e2 : (((6 * D.length / 8 : Nat) : Int) - 0).toNat = 6 * D.length / 8 := by omega
  have e3 : ((D.length : Int) * 6 - ((6 * D.length / 8 : Nat) : Int) * 8).toNat = 6 * D.length - 8 * (6 * D.length / 8) := by omega
  rw [e2, e3, List.map_map]
  refine List.map_congr_left fun k hk => ?_
  have hk := List.mem_range.mp hk
  have e4 : (((6 * D.length / 8 : Nat) : Int) - 1 - (0 + (k : Int))).toNat = 6 * D.length / 8 - 1 - k := by omega
  show (((numOf D).fdiv (2 ^ (6 * D.length - 8 * (6 * D.length / 8)))).fdiv (256 ^ (((6 * D.length / 8 : Nat) : Int) - 1 - (0 + (k : Int))).toNat)).fmod 256 = _
  rw [e4, Int.fdiv_eq_ediv_of_nonneg _ (Int.le_of_lt (Int.pow_pos (by decide))), Int.fdiv_eq_ediv_of_nonneg _ (Int.le_of_lt (Int.pow_pos (by decide))), Int.fmod_eq_emod_of_nonneg _ (by decide),
    Int.ediv_ediv_of_nonneg (Int.le_of_lt (Int.pow_pos (by decide))), show (256 : Int) = 2 ^ 8 from rfl, ← Int.pow_mul, ← Int.pow_add,
    show 6 * D.length - 8 * (6 * D.length / 8) + 8 * (6 * D.length / 8 - 1 - k) = 6 * D.length - 8 * (k + 1) by omega]
/-! ### the number of octets -/
def octNum (O : List Int) : Int := O.foldl (fun a o => a * 256 + o) 0
theorem octNum_cat (O : List Int) (o : Int) : octNum (O ++ [o]) = octNum O * 256 + o := by simp [octNum]
theorem snoc_ind {α : Type} {P : List α → Prop} (h0 : P []) (hs : ∀ l a, P l → P (l ++ [a])) (l : List α) : P l := by
  have key : ∀ n, ∀ l : List α, l.length = n → P l := by
    intro n
    induction n with
    | zero => intro l h; rw [List.length_eq_zero_iff.mp h]; exact h0
    | succ n ih =>
      intro l h
      obtain ⟨r, a, rfl⟩ : ∃ r a, l = r ++ [a] := ⟨l.dropLast, l.getLast (by intro e; rw [e] at h; simp at h), (List.dropLast_concat_getLast _).symm⟩
      exact hs r a (ih r (by simpa using h))
  exact key _ l rfl
theorem octNum_octG (D : List Int) : (∀ x ∈ D, 0 ≤ x ∧ x < 64) → octNum (octG D) = numOf D / 2 ^ (6 * D.length % 8) := by
  refine snoc_ind (P := fun D => (∀ x ∈ D, 0 ≤ x ∧ x < 64) → octNum (octG D) = numOf D / 2 ^ (6 * D.length % 8)) (fun _ => rfl) (fun D v ih h => ?_) D
  have ih := ih fun x hx => h x (List.mem_append_left _ hx)
  have hv := h v (by simp)
  rw [octG_step D v hv.1 hv.2, num_cat, List.length_append, List.length_singleton, show 6 * (D.length + 1) = 6 * D.length + 6 by omega]
  generalize numOf D = N at *
  generalize hn : D.length = n at *
  have h4 : n % 4 = 0 ∨ n % 4 = 1 ∨ n % 4 = 2 ∨ n % 4 = 3 := by omega
  rcases h4 with h4 | h4 | h4 | h4
  · rw [if_pos h4, List.append_nil, ih, show 6 * n % 8 = 0 by omega, show (6 * n + 6) % 8 = 6 by omega]
    show N / 1 = (N * 64 + v) / 64
    omega
  · rw [if_neg (by omega), octNum_cat, ih, show 6 * n % 8 = 6 by omega, show (6 * n + 6) % 8 = 4 by omega]
    show N / 64 * 256 + (N * 64 + v) / 16 % 256 = (N * 64 + v) / 16
    omega
  · rw [if_neg (by omega), octNum_cat, ih, show 6 * n % 8 = 4 by omega, show (6 * n + 6) % 8 = 2 by omega]
    show N / 16 * 256 + (N * 64 + v) / 4 % 256 = (N * 64 + v) / 4
    omega
  · rw [if_neg (by omega), octNum_cat, ih, show 6 * n % 8 = 2 by omega, show (6 * n + 6) % 8 = 0 by omega]
    show N / 4 * 256 + (N * 64 + v) / 1 % 256 = (N * 64 + v) / 1
    omega
/-- figures of a number -/
def digG (N : Int) (n : Nat) : List Int := (List.range n).map fun k => N / 2 ^ (6 * n - 6 * (k + 1)) % 64
theorem digG_num (F : List Int) : (∀ x ∈ F, 0 ≤ x ∧ x < 64) → digG (numOf F) F.length = F := by
  refine snoc_ind (P := fun F => (∀ x ∈ F, 0 ≤ x ∧ x < 64) → digG (numOf F) F.length = F) (fun _ => rfl) (fun F v ih h => ?_) F
  have ih := ih fun x hx => h x (List.mem_append_left _ hx)
  have hv := h v (by simp)
  have key : digG (numOf (F ++ [v])) (F ++ [v]).length = digG (numOf F) F.length ++ [v] := by
    unfold digG
    rw [num_cat, List.length_append, List.length_singleton, List.range_succ, List.map_append]
    congr 1
    · refine List.map_congr_left fun k hk => ?_
      have hk := List.mem_range.mp hk
      rw [show 6 * (F.length + 1) - 6 * (k + 1) = (6 * F.length - 6 * (k + 1)) + 6 by omega, shift6 _ _ _ hv.1 hv.2]
    · simp only [List.map_cons, List.map_nil]
      rw [Nat.sub_self]
      show [(numOf F * 64 + v) / 1 % 64] = [v]
      congr 1
      omega
  rw [key, ih]
/-! ### the writing -/
def figG (O : List Int) : List Int := (List.range (8 * O.length / 6)).map fun k => octNum O / 2 ^ (8 * O.length - 6 * (k + 1)) % 64
theorem figG_step (O : List Int) (o : Int) (h0 : 0 ≤ o) (h1 : o < 256) : figG (O ++ [o]) = figG O ++ (if O.length % 3 = 2 then [(octNum O * 256 + o) / 64 % 64] ++ [(octNum O * 256 + o) % 64] else [(octNum O * 256 + o) / 2 ^ (8 * O.length % 6 + 2) % 64]) := by
  unfold figG
  rw [octNum_cat, List.length_append, List.length_singleton]
  have same : ∀ k ∈ List.range (8 * O.length / 6), (octNum O * 256 + o) / 2 ^ (8 * (O.length + 1) - 6 * (k + 1)) % 64 = octNum O / 2 ^ (8 * O.length - 6 * (k + 1)) % 64 := fun k hk => by
    have hk := List.mem_range.mp hk
    rw [show 8 * (O.length + 1) - 6 * (k + 1) = (8 * O.length - 6 * (k + 1)) + 8 by omega, shift8 _ _ _ h0 h1]
  split
  · rw [show 8 * (O.length + 1) / 6 = 8 * O.length / 6 + 1 + 1 by omega, List.range_succ, List.range_succ, List.map_append, List.map_append, List.map_congr_left same, List.append_assoc]
    congr 1
    simp only [List.map_cons, List.map_nil]
    rw [show 8 * (O.length + 1) - 6 * (8 * O.length / 6 + 1) = 6 by omega, show 8 * (O.length + 1) - 6 * (8 * O.length / 6 + 1 + 1) = 0 by omega]
    show [_] ++ [(octNum O * 256 + o) / 1 % 64] = _
    rw [Int.ediv_one]
    rfl
  · have h3 : O.length % 3 = 0 ∨ O.length % 3 = 1 := by omega
    have e1 : 8 * (O.length + 1) / 6 = 8 * O.length / 6 + 1 := by rcases h3 with h3 | h3 <;> omega
    rw [e1, List.range_succ, List.map_append, List.map_congr_left same]
    congr 1
    simp only [List.map_cons, List.map_nil]
    have e2 : 8 * (O.length + 1) - 6 * (8 * O.length / 6 + 1) = 8 * O.length % 6 + 2 := by rcases h3 with h3 | h3 <;> omega
    rw [e2]
theorem b2_state (O : List Int) : (∀ x ∈ O, 0 ≤ x ∧ x < 256) → b2run O = ⟨(figG O).map b64ch, ((8 * O.length % 6 : Nat) : Int), octNum O % 65536⟩ ∧ 0 ≤ octNum O := by
  refine snoc_ind (P := fun O => (∀ x ∈ O, 0 ≤ x ∧ x < 256) → b2run O = ⟨(figG O).map b64ch, ((8 * O.length % 6 : Nat) : Int), octNum O % 65536⟩ ∧ 0 ≤ octNum O) (fun _ => ⟨rfl, Int.le_refl _⟩) (fun O o ih h => ?_) O
  obtain ⟨ih, hM⟩ := ih fun x hx => h x (List.mem_append_left _ hx)
  have ho := h o (by simp)
  refine ⟨?_, by rw [octNum_cat]; omega⟩
  rw [b2run_snoc, ih, figG_step O o ho.1 ho.2, octNum_cat, List.length_append, List.length_singleton]
  generalize octNum O = M at *
  have hc : Builtin.bitAnd (Builtin.bitOr (M % 65536 * 2 ^ Int.toNat 8) o) 65535 = (M * 256 + o) % 65536 := by
    rw [bor_of (Int.toNat 8) (by omega) ho.1 (by show o < 256; omega)]
    show Builtin.bitAnd (M % 65536 * 256 + o) 65535 = _
    rw [bitAnd_m16]
    omega
  have h3 : O.length % 3 = 0 ∨ O.length % 3 = 1 ∨ O.length % 3 = 2 := by omega
  rcases h3 with h3 | h3 | h3
  · have e : 8 * O.length % 6 = 0 := by omega
    rw [e, if_neg (by omega), show 8 * (O.length + 1) % 6 = 2 by omega]
    unfold b2step
    dsimp only
    rw [if_pos (show ((0 : Nat) : Int) = 0 from rfl), hc, List.map_append]
    have : Builtin.bitAnd (((M * 256 + o) % 65536).fdiv (2 ^ (0 + 8 - 6 : Int).toNat)) 63 = (M * 256 + o) / 2 ^ (0 + 2) % 64 := by
      rw [show (2 : Int) ^ (0 + 8 - 6 : Int).toNat = 4 from rfl, Int.fdiv_eq_ediv_of_nonneg _ (by decide), bitAnd_m6]
      show _ = (M * 256 + o) / 4 % 64
      omega
    rw [this]; rfl
  · have e : 8 * O.length % 6 = 2 := by omega
    rw [e, if_neg (by omega), show 8 * (O.length + 1) % 6 = 4 by omega]
    unfold b2step
    dsimp only
    rw [if_neg (show ¬ ((2 : Nat) : Int) = 0 by decide), if_pos (show ((2 : Nat) : Int) = 2 from rfl), hc, List.map_append]
    have : Builtin.bitAnd (((M * 256 + o) % 65536).fdiv (2 ^ (2 + 8 - 6 : Int).toNat)) 63 = (M * 256 + o) / 2 ^ (2 + 2) % 64 := by
      rw [show (2 : Int) ^ (2 + 8 - 6 : Int).toNat = 16 from rfl, Int.fdiv_eq_ediv_of_nonneg _ (by decide), bitAnd_m6]
      show _ = (M * 256 + o) / 16 % 64
      omega
    rw [this]; rfl
  · have e : 8 * O.length % 6 = 4 := by omega
    rw [e, if_pos h3, show 8 * (O.length + 1) % 6 = 0 by omega]
    unfold b2step
    dsimp only
    rw [if_neg (show ¬ ((4 : Nat) : Int) = 0 by decide), if_neg (show ¬ ((4 : Nat) : Int) = 2 by decide), hc, List.map_append, List.map_append]
    have h1 : Builtin.bitAnd (((M * 256 + o) % 65536).fdiv (2 ^ (4 + 8 - 6 : Int).toNat)) 63 = (M * 256 + o) / 64 % 64 := by
      rw [show (2 : Int) ^ (4 + 8 - 6 : Int).toNat = 64 from rfl, Int.fdiv_eq_ediv_of_nonneg _ (by decide), bitAnd_m6]
      omega
    have h2 : Builtin.bitAnd (((M * 256 + o) % 65536).fdiv (2 ^ (4 + 8 - 6 - 6 : Int).toNat)) 63 = (M * 256 + o) % 64 := by
      rw [show (2 : Int) ^ (4 + 8 - 6 - 6 : Int).toNat = 1 from rfl, Int.fdiv_eq_ediv_of_nonneg _ (by decide), bitAnd_m6]
      omega
    rw [h1, h2, List.append_assoc]; rfl
/-- the octets' writing is the figures' -/
theorem written_figs (F : List Int) (k : Nat) (hF : ∀ x ∈ F, 0 ≤ x ∧ x < 64) (hl : F.length = 4 * k) : (b2run (octF F)).out = F.map b64ch ∧ (b2run (octF F)).b = 0 := by
  rw [octF_eq F hF, (b2_state _ (octG_range F)).1, octG_len]
  refine ⟨?_, by show (((8 * (6 * F.length / 8) % 6 : Nat)) : Int) = 0; omega⟩
  show (figG (octG F)).map b64ch = _
  congr 1
  unfold figG
  rw [octNum_octG F hF, octG_len, show 6 * F.length % 8 = 0 by omega, show 8 * (6 * F.length / 8) / 6 = F.length by omega, show 8 * (6 * F.length / 8) = 6 * F.length by omega]
  show (List.range F.length).map (fun k => numOf F / 1 / 2 ^ (6 * F.length - 6 * (k + 1)) % 64) = F
  rw [Int.ediv_one]
  exact digG_num F hF
end PartPL3
section PartPL4
open PySem PySem.W PyProof.Rows
set_option maxRecDepth 100000
set_option maxHeartbeats 1000000
abbrev sg (two : Str) : List Nat := (signsOf two).cps.toList
theorem sg_len {two : Str} (h : two ∈ twos) : (sg two).length = 64 := signs_len h
theorem item_at (x : Str) {i : Int} (h0 : 0 ≤ i) (h1 : i < x.length) : (Txt.item x i).cps.toList = [x.cps.toList.getD i.toNat 0] := by
  have e : seqIndex? i x.length = some i.toNat := by
    unfold seqIndex?
    have h2 : ¬ i < 0 := by omega
    simp [h2, h1, h0]
  unfold Txt.item Txt.charAt
  rw [e]
  show [(x.cps[i.toNat]?).getD 0] = _
  rw [List.getD_eq_getElem?_getD, Array.getElem?_toList]
theorem jn_nil : ∀ ps : List (List Nat), jn [] ps = ps.flatten
  | [] => rfl
  | [p] => by simp [jn]
  | p :: q :: r => by
    rw [jn, jn_nil (q :: r)]
    simp
theorem text_list {two : Str} (h : two ∈ twos) {F : List Int} (hF : ∀ x ∈ F, 0 ≤ x ∧ x < 64) : (textFig two F).cps.toList = F.map fun f => (sg two).getD f.toNat 0 := by
  unfold textFig
  rw [txt_join, show (Str.ofString "").cps.toList = [] from rfl, jn_nil, List.map_map]
  have hl := signs_len h
  induction F with
  | nil => rfl
  | cons f r ih =>
    have hf := hF f (.head _)
    rw [List.map_cons, List.flatten_cons, List.map_cons, ih fun x hx => hF x (.tail _ hx)]
    show (Txt.item (signsOf two) f).cps.toList ++ _ = _
    rw [item_at _ hf.1 (by rw [hl]; omega)]
    rfl
theorem text_len {two : Str} (h : two ∈ twos) {F : List Int} (hF : ∀ x ∈ F, 0 ≤ x ∧ x < 64) : (textFig two F).length = F.length := by
  have := congrArg List.length (text_list h hF)
  simpa [Str.length] using this
theorem text_in {two : Str} (h : two ∈ twos) {F : List Int} (hF : ∀ x ∈ F, 0 ≤ x ∧ x < 64) : ∀ c ∈ (textFig two F).cps.toList, c ∈ sg two := by
  intro c hc
  rw [text_list h hF] at hc
  obtain ⟨f, hf, rfl⟩ := List.mem_map.mp hc
  have hf := hF f hf
  have hl := sg_len h
  rw [List.getD_eq_getElem?_getD, List.getElem?_eq_getElem (by omega)]
  exact List.getElem_mem _
theorem fix_in : ∀ (l : List Nat) (b : Bool), ∀ c ∈ fixF b l, c ∈ l ∨ c = 10 ∨ c = 13
  | [], _, c, h => by cases h
  | a :: r, b, c, h => by
    have h1 := fix_in r true c
    have h2 := fix_in r false c
    unfold fixF at h
    split at h
    · split at h
      · rcases h2 h with h | h
        · exact .inl (.tail _ h)
        · exact .inr h
      · rcases List.mem_cons.mp h with rfl | h
        · exact .inr (.inr rfl)
        rcases List.mem_cons.mp h with rfl | h
        · exact .inr (.inl rfl)
        rcases h2 h with h | h
        · exact .inl (.tail _ h)
        · exact .inr h
    · split at h
      · rcases List.mem_cons.mp h with rfl | h
        · exact .inr (.inr rfl)
        rcases List.mem_cons.mp h with rfl | h
        · exact .inr (.inl rfl)
        rcases h1 h with h | h
        · exact .inl (.tail _ h)
        · exact .inr h
      · rcases List.mem_cons.mp h with rfl | h
        · exact .inl (.head _)
        rcases h2 h with h | h
        · exact .inl (.tail _ h)
        · exact .inr h
theorem dot_in : ∀ (l : List Nat) (b : Bool), ∀ c ∈ dotF b l, c ∈ l ∨ c = 46
  | [], _, c, h => by cases h
  | a :: r, b, c, h => by
    have h2 := dot_in r false c
    have h3 := dot_in r (a == 10) c
    unfold dotF at h
    split at h
    · rcases List.mem_cons.mp h with rfl | h
      · exact .inr rfl
      rcases List.mem_cons.mp h with rfl | h
      · exact .inr rfl
      rcases h2 h with h | h
      · exact .inl (.tail _ h)
      · exact .inr h
    · rcases List.mem_cons.mp h with rfl | h
      · exact .inl (.head _)
      rcases h3 h with h | h
      · exact .inl (.tail _ h)
      · exact .inr h
theorem tx_list (l : List Nat) : (tx l).cps.toList = l := rfl
theorem p_page_ok (k : Nat) (two : Str) (ns : List Int) (h : two ∈ twos) : PageOk two (page k two (figsOf ns)) := by
  obtain ⟨q, hq, _, hq2⟩ := figs_four (ns := ns)
  have hlen : (textFig two (figsOf ns)).cps.toList.length ≤ 20 := by
    have := text_len h (figs_range (ns := ns))
    have e : (textFig two (figsOf ns)).cps.toList.length = (textFig two (figsOf ns)).length := by simp [Str.length]
    omega
  have hin := text_in h (figs_range (ns := ns))
  unfold page
  generalize (textFig two (figsOf ns)).cps.toList = T at *
  have h1 := fixF_len T false
  have h2 := dotF_len (fixF false T) true
  have h3 := dotF_len T true
  have sz : ∀ l : List Nat, (tx l).length = l.length := fun l => by simp [tx, Str.length]
  split
  · exact ⟨h, by rw [sz]; omega, fun c hc => by
      rcases fix_in T false c hc with h | h | h
      · exact .inl (hin c h)
      · exact .inr (.inl h)
      · exact .inr (.inr (.inl h))⟩
  · split
    · exact ⟨h, by rw [sz]; omega, fun c hc => by
        rcases dot_in _ _ c hc with h | h
        · rcases fix_in T false c h with h | h | h
          · exact .inl (hin c h)
          · exact .inr (.inl h)
          · exact .inr (.inr (.inl h))
        · exact .inr (.inr (.inr h))⟩
    · exact ⟨h, by rw [sz]; omega, fun c hc => by
        rcases dot_in _ _ c hc with h | h
        · exact .inl (hin c h)
        · exact .inr (.inr (.inr h))⟩
/-! ### lengths -/
theorem joinOk_of {sep : Str} {ps : List Str} (hn : ps.length ≤ 1000) (hp : ∀ p ∈ ps, p.length ≤ 1000) (hs : sep.length ≤ 2) : JoinOk sep ps = true := by
  unfold JoinOk
  rw [Bool.not_eq_true']
  refine StrLaws.joinFits (B := 1000) hp ?_
  have h1 : ps.length * 1000 ≤ 1000 * 1000 := Nat.mul_le_mul_right _ hn
  have h2 : ps.length * sep.length ≤ 1000 * 2 := Nat.mul_le_mul hn hs
  omega
theorem p_join_figs (two : Str) (ns : List Int) (_h : two ∈ twos) : JoinOk (Str.ofString "") ((figsOf ns).map (signAt two)) = true := by
  have := figs_len (ns := ns)
  refine joinOk_of (by rw [List.length_map]; omega) (fun p hp => ?_) (by decide)
  obtain ⟨f, _, rfl⟩ := List.mem_map.mp hp
  show (1 : Nat) ≤ 1000
  decide
theorem splitF_len : ∀ l : List Nat, (splitF l).length ≤ l.length + 1
  | [] => by simp [splitF]
  | c :: r => by
    have ih := splitF_len r
    obtain ⟨a, t, e⟩ := splitF_ne r
    unfold splitF
    rw [e] at ih ⊢
    split <;> simp [pre] at ih ⊢ <;> omega
theorem splitF_part : ∀ (l : List Nat), ∀ p ∈ splitF l, p.length ≤ l.length
  | [], p, h => by rw [List.mem_singleton.mp h]; exact Nat.le_refl _
  | c :: r, p, h => by
    have ih := splitF_part r
    obtain ⟨a, t, e⟩ := splitF_ne r
    unfold splitF at h
    rw [e] at ih h
    rw [List.length_cons]
    split at h
    · rcases List.mem_cons.mp h with rfl | h
      · exact Nat.zero_le _
      · exact Nat.le_succ_of_le (ih p h)
    · rcases List.mem_cons.mp h with rfl | h
      · have := ih a (.head _)
        show (c :: a).length ≤ _
        rw [List.length_cons]; omega
      · exact Nat.le_succ_of_le (ih p (.tail _ h))
theorem rep2_len : ∀ l : List Nat, (rep2 l).length ≤ l.length
  | [] => Nat.le_refl _
  | c :: r => by
    have := rep2_len r
    unfold rep2
    split <;> simp <;> omega
theorem lf_len (l : List Nat) : (lfF l).length ≤ l.length := by
  unfold lfF; rw [List.length_map]; exact rep2_len l
theorem len_list (x : Str) : x.cps.toList.length = x.length := by simp [Str.length]
theorem split_len (x : Str) : (Txt.split x (Str.ofString "\n")).length ≤ x.length + 1 := by
  have := congrArg List.length (split_eq x)
  rw [List.length_map] at this
  rw [this, ← len_list]
  exact splitF_len _
theorem split_part (x : Str) : ∀ p ∈ Txt.split x (Str.ofString "\n"), p.length ≤ x.length := by
  intro p hp
  have h1 : p.cps.toList ∈ splitF x.cps.toList := by
    rw [← split_eq]; exact List.mem_map.mpr ⟨p, hp, rfl⟩
  have := splitF_part _ _ h1
  rwa [len_list, len_list] at this
theorem dot_part {ps : List Str} {n : Nat} (h : ∀ p ∈ ps, p.length ≤ n) : ∀ p ∈ ps.map dotRow, p.length ≤ n + 1 := by
  intro p hp
  obtain ⟨q, hq, rfl⟩ := List.mem_map.mp hp
  have h1 := h q hq
  have h2 := congrArg List.length (dotRow_eq q)
  rw [len_list] at h2
  rw [h2]
  unfold dotL
  have := len_list q
  split
  · rw [List.length_cons]; omega
  · omega
theorem lfs_len (x : Str) : (lfs x).length ≤ x.length := by
  rw [← len_list, lf_eq, ← len_list]; exact lf_len _
theorem rep_len2 (x : Str) : (Txt.replace x (Str.ofString "\r\n") (Str.ofString "\n")).length ≤ x.length := by
  obtain ⟨ps, h1, h2⟩ := replace_PL x (Str.ofString "\r\n") (Str.ofString "\n") (by decide +kernel)
  have e1 : (Txt.replace x (Str.ofString "\r\n") (Str.ofString "\n")).cps.toList = rep2 x.cps.toList := h2.trans (PL_rep2 h1)
  rw [← len_list, e1, ← len_list]; exact rep2_len _
end PartPL4
section PartPL5
open PySem PySem.W PyProof.Rows
set_option maxRecDepth 100000
set_option maxHeartbeats 1000000
/-! ### the two tables -/
def tr (a b c d i : UInt8) : UInt8 := if i = b then d else if i = a then c else i
theorem base_tab (n : Nat) (h : n < 256) : ((Array.range 256).map (·.toUInt8))[n]? = some n.toUInt8 := by
  rw [Array.getElem?_map, Array.getElem?_range, if_pos h]; rfl
theorem trans2 (a b c d i : UInt8) : (transTab #[a, b] #[c, d]).getD i.toNat i = tr a b c d i := by
  have hi := i.toNat_lt
  have hsz : ((Array.range 256).map (·.toUInt8)).size = 256 := by rw [Array.size_map, Array.size_range]
  unfold transTab tr
  show (((((Array.range 256).map (·.toUInt8)).setIfInBounds a.toNat c).setIfInBounds b.toNat d)).getD i.toNat i = _
  rw [Array.getD_eq_getD_getElem?, Array.getElem?_setIfInBounds, Array.getElem?_setIfInBounds, Array.size_setIfInBounds, hsz, base_tab _ hi]
  have ha := a.toNat_lt
  have hb := b.toNat_lt
  have e : ∀ x y : UInt8, x.toNat = y.toNat ↔ y = x := fun x y => ⟨fun h => (UInt8.toNat_inj.mp h).symm, fun h => by rw [h]⟩
  simp only [e, ha, hb, if_true]
  split
  · rfl
  · split
    · rfl
    · simp
def s0 (two : Str) : UInt8 := (two.cps.toList.getD 0 0).toUInt8
def s1 (two : Str) : UInt8 := (two.cps.toList.getD 1 0).toUInt8
theorem ascii_two {two : Str} (h : two ∈ twos) : asciiOf two = #[s0 two, s1 two] := by
  have : ∀ t ∈ twos, asciiOf t = #[s0 t, s1 t] := by decide +kernel
  exact this two h
theorem check1 {two : Str} (h : two ∈ twos) (v : Nat) (hv : v < 64) : tr 43 47 (s0 two) (s1 two) (b64ch (v : Int)).toNat.toUInt8 = ((sg two).getD v 0).toUInt8 := by
  have : ∀ t ∈ twos, ∀ v ∈ List.range 64, tr 43 47 (s0 t) (s1 t) (b64ch (v : Int)).toNat.toUInt8 = ((sg t).getD v 0).toUInt8 := by decide +kernel
  exact this two h v (List.mem_range.mpr hv)
abbrev tau (two : Str) (n : Nat) : UInt8 := tr (s0 two) (s1 two) 43 47 n.toUInt8
theorem check2 {two : Str} (h : two ∈ twos) {n : Nat} (hn : n ∈ sg two) : bval ((tau two n).toNat : Int) = (((sg two).idxOf n : Nat) : Int) ∧ ((tau two n).toNat : Int) ≠ 61 := by
  have : ∀ t ∈ twos, ∀ n ∈ sg t, bval ((tau t n).toNat : Int) = (((sg t).idxOf n : Nat) : Int) ∧ ((tau t n).toNat : Int) ≠ 61 := by decide +kernel
  exact this two h n hn
theorem check3 {two : Str} (h : two ∈ twos) {n : Nat} (hn : n ∉ sg two) (h3 : n = 10 ∨ n = 13 ∨ n = 46) : bval ((tau two n).toNat : Int) = 64 ∧ ((tau two n).toNat : Int) ≠ 61 := by
  have : ∀ t ∈ twos, ∀ n ∈ [10, 13, 46], n ∉ sg t → bval ((tau t n).toNat : Int) = 64 ∧ ((tau t n).toNat : Int) ≠ 61 := by decide +kernel
  exact this two h n (by simpa using h3) hn
theorem check4 {two : Str} (h : two ∈ twos) : ((tau two 61).toNat : Int) = 61 := by
  have : ∀ t ∈ twos, ((tau t 61).toNat : Int) = 61 := by decide +kernel
  exact this two h
/-! ### the reading of a page -/
theorem dueOf_range {two : Str} (h : two ∈ twos) (l : List Nat) : ∀ x ∈ dueOf two l, 0 ≤ x ∧ x < 64 := due_range h l
theorem a2_page {two : Str} (h : two ∈ twos) (l : List Nat) : (∀ c ∈ l, c ∈ sg two ∨ c = 10 ∨ c = 13 ∨ c = 46) →
    a2run (l.map fun c => ((tau two c).toNat : Int)) = ⟨octG (dueOf two l), (((dueOf two l).length % 4 : Nat) : Int), numOf (dueOf two l) % 2 ^ (6 * (dueOf two l).length % 8), 0⟩ := by
  refine snoc_ind (P := fun l => (∀ c ∈ l, c ∈ sg two ∨ c = 10 ∨ c = 13 ∨ c = 46) → a2run (l.map fun c => ((tau two c).toNat : Int)) = ⟨octG (dueOf two l), (((dueOf two l).length % 4 : Nat) : Int), numOf (dueOf two l) % 2 ^ (6 * (dueOf two l).length % 8), 0⟩) (fun _ => by simp [dueOf, octG, numOf, a2run]) (fun l c ih hl => ?_) l
  have ih := ih fun x hx => hl x (List.mem_append_left _ hx)
  have hc := hl c (by simp)
  rw [List.map_append, List.map_cons, List.map_nil, a2run_snoc, ih, due_snoc]
  have hD := due_range h l
  by_cases hin : c ∈ sg two
  · obtain ⟨hb, h61⟩ := check2 h hin
    rw [if_pos hin]
    have hv : (0 : Int) ≤ (((sg two).idxOf c : Nat) : Int) ∧ (((sg two).idxOf c : Nat) : Int) < 64 := by
      have h2 := List.idxOf_lt_length_of_mem hin
      have h3 := sg_len h
      omega
    generalize (((sg two).idxOf c : Nat) : Int) = v at hb hv
    generalize ((tau two c).toNat : Int) = ch at hb h61
    generalize dueOf two l = D at hD
    have hN := (num_range hD).1
    rw [octG_step D v hv.1 hv.2, num_cat, List.length_append, List.length_singleton, show 6 * (D.length + 1) = 6 * D.length + 6 by omega]
    generalize numOf D = N at hN
    generalize hn : D.length = n
    unfold a2step
    rw [if_neg h61, if_neg (by rw [hb]; omega), hb]
    have h4 : n % 4 = 0 ∨ n % 4 = 1 ∨ n % 4 = 2 ∨ n % 4 = 3 := by omega
    rcases h4 with h4 | h4 | h4 | h4
    · rw [h4, show (n + 1) % 4 = 1 by omega, show (6 * n + 6) % 8 = 6 by omega, if_pos rfl]
      dsimp only
      rw [if_pos (show ((0 : Nat) : Int) = 0 from rfl), List.append_nil, show (N * 64 + v) % 2 ^ 6 = v by show (N * 64 + v) % 64 = v; omega]
      rfl
    · rw [h4, show (n + 1) % 4 = 2 by omega, show (6 * n + 6) % 8 = 4 by omega, show 6 * n % 8 = 6 by omega]
      dsimp only
      rw [if_neg (show ¬ ((1 : Nat) : Int) = 0 by decide), if_pos (show ((1 : Nat) : Int) = 1 from rfl), if_neg (show ¬ (1 : Nat) = 0 by decide), show (2 : Int) ^ 6 = 64 from rfl, a2_val1 (show 0 ≤ N % 64 by omega) (show N % 64 < 64 by omega) hv.1 hv.2, bitAnd_m4]
      have e1 : N % 64 * 4 + v / 16 = (N * 64 + v) / 2 ^ 4 % 256 := by
        show _ = (N * 64 + v) / 16 % 256
        omega
      have e2 : v % 16 = (N * 64 + v) % 2 ^ 4 := by
        show _ = (N * 64 + v) % 16
        omega
      rw [e1, e2]; rfl
    · rw [h4, show (n + 1) % 4 = 3 by omega, show (6 * n + 6) % 8 = 2 by omega, show 6 * n % 8 = 4 by omega]
      dsimp only
      rw [if_neg (show ¬ ((2 : Nat) : Int) = 0 by decide), if_neg (show ¬ ((2 : Nat) : Int) = 1 by decide), if_pos (show ((2 : Nat) : Int) = 2 from rfl), if_neg (show ¬ (2 : Nat) = 0 by decide), show (2 : Int) ^ 4 = 16 from rfl, a2_val2 (show 0 ≤ N % 16 by omega) (show N % 16 < 16 by omega) hv.1 hv.2, bitAnd_m2]
      have e1 : N % 16 * 16 + v / 4 = (N * 64 + v) / 2 ^ 2 % 256 := by
        show _ = (N * 64 + v) / 4 % 256
        omega
      have e2 : v % 4 = (N * 64 + v) % 2 ^ 2 := by
        show _ = (N * 64 + v) % 4
        omega
      rw [e1, e2]; rfl
    · rw [h4, show (n + 1) % 4 = 0 by omega, show (6 * n + 6) % 8 = 0 by omega, show 6 * n % 8 = 2 by omega]
      dsimp only
      rw [if_neg (show ¬ ((3 : Nat) : Int) = 0 by decide), if_neg (show ¬ ((3 : Nat) : Int) = 1 by decide), if_neg (show ¬ ((3 : Nat) : Int) = 2 by decide), if_neg (show ¬ (3 : Nat) = 0 by decide), show (2 : Int) ^ 2 = 4 from rfl, a2_val3 (show 0 ≤ N % 4 by omega) (show N % 4 < 4 by omega) hv.1 hv.2]
      have e1 : N % 4 * 64 + v = (N * 64 + v) / 2 ^ 0 % 256 := by
        show _ = (N * 64 + v) / 1 % 256
        omega
      have e2 : (0 : Int) = (N * 64 + v) % 2 ^ 0 := by
        show _ = (N * 64 + v) % 1
        omega
      rw [e1, ← e2]; rfl
  · obtain ⟨hb, h61⟩ := check3 h hin (hc.resolve_left hin)
    rw [if_neg hin]
    unfold a2step
    rw [if_neg h61, if_pos (by rw [hb]; decide)]
theorem a2_pad (ks : List Int) (k : Nat) : a2run (ks ++ List.replicate k 61) = ⟨(a2run ks).out, (a2run ks).q, (a2run ks).l, (a2run ks).p + k⟩ := by
  induction k with
  | zero => simp
  | succ k ih =>
    rw [List.replicate_succ', ← List.append_assoc, a2run_snoc, ih]
    unfold a2step
    rw [if_pos rfl]
    congr 1
    show (a2run ks).p + (k : Int) + 1 = _
    omega
end PartPL5
section PartFn13
open PySem PySem.W PyProof.Rows
set_option maxRecDepth 100000
set_option maxHeartbeats 4000000
open PySem.Calls
section
variable {prog : Program} {w : World} {A : Around} {h₀ : Heap} {L : Addr} {m : Str → Option Value} {env : Env} {elt ct : Expr} {x : Str} {scope : Scope} {cl : List (Str × Addr)} {s : Shared} {S : List (Addr × Obj) → Prop} {Fin : List Value → List (Addr × Obj) → Prop} {news : List (Addr × Obj)}
theorem comp_figs {vs : List Value} {ns : List Int} (two : Str) (hfigs : IntsAre vs (figsOf ns))
    (turn : ∀ (f : Int) (t : Tok) I oI C oC D m₂ ys h tk (E' : Value → Shared → Prop), 0 ≤ f → f < 64 → LCg.NsObj oC m₂ → m₂ x = some (.int f t) → Fr h₀ L h m → News h₀ L h ((I, oI) :: (C, oC) :: (D, LCg.lst ys) :: news) → LCg.Off3 I C D news → ((@Ne Nat I C) ∧ (@Ne Nat I D) ∧ (@Ne Nat C D)) →
      wpAny (model prog w) A (eval elt (compEnvC scope cl C env)) (LCg.CompEnd h₀ L m { s with heap := h, toks := tk } I oI C oC D (LCg.lst ys) S (ElEnd news (fun y => ∃ t, y = .str (signAt two f) t))) E' { s with heap := h, toks := tk })
    (fin : ∀ l : List (Str × Tok), l.map (·.1) = (figsOf ns).map (signAt two) → Fin (strValues l) news) : LCg.CompRest prog w A h₀ L m env elt x scope cl s S (fun i v => vs.toArray[i]? = some v) Fin vs.toArray.size 0 [] news := by
  refine comp_rest (fun i y => ∃ f t, (figsOf ns)[i]? = some f ∧ y = .str (signAt two f) t) ?_ ?_
  · intro i v I oI C oC D m₂ ys h tk E' hin hP hC hx F N off ne
    obtain ⟨f, t, hf, rfl⟩ := ints_at hfigs (i := i) (v := v) (by simpa using hP)
    have hfr := figs_range f (List.mem_of_getElem? hf)
    refine wpAny_mono (turn f t I oI C oC D m₂ ys h tk E' hfr.1 hfr.2 hC hx F N off ne) (fun y s' hend => ?_) fun _ _ e => e
    obtain ⟨h', tk', news', e1, F', N', off', hS, rfl, t', hG⟩ := hend
    exact ⟨h', tk', _, e1, F', N', off', hS, rfl, f, t', hf, hG⟩
  · intro ys hlen hG
    obtain ⟨l, rfl, hx9⟩ := vals_strs (strs_of (signAt two) (figsOf ns) ys (by rw [hlen, List.size_toArray, ints_len hfigs]) hG)
    exact fin l hx9
open PySem.Builtin.Str in
theorem comp_due {P : Str} (two : Str)
    (turn : ∀ (c : Nat) (t : Tok) I oI C oC D m₂ ys h tk (E' : Value → Shared → Prop), LCg.NsObj oC m₂ → m₂ x = some (.str ⟨#[c]⟩ t) → Fr h₀ L h m → News h₀ L h ((I, oI) :: (C, oC) :: (D, LCg.lst ys) :: news) → LCg.Off3 I C D news → ((@Ne Nat I C) ∧ (@Ne Nat I D) ∧ (@Ne Nat C D)) →
      wpAny (model prog w) A (isTrue ct (compEnvC scope cl C env) (eval ct (compEnvC scope cl C env))) (fun ok s' => if ok = true then
        wpAny (model prog w) A (eval elt (compEnvC scope cl C env)) (LCg.CompEnd h₀ L m { s with heap := h, toks := tk } I oI C oC D (LCg.lst ys) S (fun y => ElEnd news (fun y => (!(occurrences (signsOf two) ⟨#[c]⟩ 0 (signsOf two).length 1).isEmpty) = true ∧ ∃ t, y = .int (((signsOf two).cps.toList.idxOf c : Nat) : Int) t) y)) E' s'
        else LCg.CompEnd h₀ L m { s with heap := h, toks := tk } I oI C oC D (LCg.lst ys) S (fun _ => ElEnd news (fun _ => (!(occurrences (signsOf two) ⟨#[c]⟩ 0 (signsOf two).length 1).isEmpty) = false) .none) Value.none s') E' { s with heap := h, toks := tk })
    (fin : ∀ ys : List Value, IntsAre ys (dueOf two P.cps.toList) → Fin ys news) : LCt.CompRestT prog w A h₀ L m env ct elt x scope cl s S (SignAt P) Fin P.cps.size 0 [] news := by
  refine comp_restT (fun i ys => IntsAre ys (dueOf two (P.cps.toList.take i))) .nil ?_ ?_
  · intro i v I oI C oC D m₂ ys h tk E' hin hP hR hC hx F N off ne
    obtain ⟨c, u, hc, rfl⟩ := hP
    have e : P.cps.toList.take (i + 1) = P.cps.toList.take i ++ [c] := by
      rw [List.take_add_one, Array.getElem?_toList, hc]; rfl
    refine wpAny_mono (turn c u I oI C oC D m₂ ys h tk E' hC hx F N off ne) (fun ok s' hend => ?_) fun _ _ e => e
    cases ok with
    | true =>
      simp only [if_true] at hend ⊢
      refine wpAny_mono hend (fun y s'' h2 => ?_) fun _ _ e => e
      obtain ⟨h', tk', news', e1, F', N', off', hS, rfl, hin, t', rfl⟩ := h2
      rw [StrLaws.found_one, decide_eq_true_eq] at hin
      refine ⟨h', tk', _, e1, F', N', off', hS, rfl, ?_⟩
      rw [e, due_snoc, if_pos hin]
      exact hR.append (.cons _ t' .nil)
    | false =>
      simp only [Bool.false_eq_true, if_false] at hend ⊢
      obtain ⟨h', tk', news', e1, F', N', off', hS, rfl, hin⟩ := hend
      rw [StrLaws.found_one, decide_eq_false_iff_not] at hin
      refine ⟨h', tk', _, e1, F', N', off', hS, rfl, ?_⟩
      rw [e, due_snoc, if_neg hin]
      exact hR
  · intro ys hR
    rw [List.take_of_length_le (by simp)] at hR
    exact fin ys hR
end
theorem end_same {h₀ : Heap} {L I C D : Addr} {m : Str → Option Value} {s₁ : Shared} {oI oC oD : Obj} {G : Value → Prop} {y : Value} {h' : Heap} {tk : Nat} {news : List (Addr × Obj)}
    (F : Fr h₀ L h' m) (N : News h₀ L h' ((I, oI) :: (C, oC) :: (D, oD) :: news)) (off : LCg.Off3 I C D news) (r : G y) :
    LCg.CompEnd h₀ L m s₁ I oI C oC D oD (fun _ => True) (fun y => ElEnd news G y) y { s₁ with heap := h', toks := tk } := ⟨h', tk, news, rfl, F, N, off, trivial, rfl, r⟩
theorem ite_of {c : Bool} {P Q : Prop} (h1 : c = true → P) (h2 : c = false → Q) : if c = true then P else Q := by
  cases c with
  | true => rw [if_pos rfl]; exact h1 rfl
  | false => rw [if_neg Bool.false_ne_true]; exact h2 rfl
theorem out_end {h₀ : Heap} {L : Addr} {p1 p2 : Addr × Obj} {b : Addr} {o' : Obj} {fv ov : Value} {x : Option Value} {own news' : List (Addr × Obj)} {s₁ : Shared} {h' : Heap} {m' : Str → Option Value} {tk : Nat}
    (F : Fr h₀ L h' m') (N : News h₀ L h' news') (hf : m' (Str.ofString "figures") = some fv) (ho : m' (Str.ofString "octets") = some ov) (h1 : p1 ∈ news') (h2 : p2 ∈ news') (h5 : (b, o') ∈ news') (hd : o'.data = .cell x) (hw : ∀ p ∈ own, p ∈ news') :
    InvEndN h₀ L (KS (outLed p1 p2 b) (outPs fv ov) (fun _ => outP) 0) own [p1.1, p2.1, b] s₁ { s₁ with heap := h', toks := tk } :=
  ks_end o' F N (List.forall_mem_cons.mpr ⟨hf, List.forall_mem_cons.mpr ⟨ho, List.forall_mem_nil _⟩⟩) ⟨_, hd⟩ rfl
    (List.forall_mem_cons.mpr ⟨h1, List.forall_mem_cons.mpr ⟨h2, List.forall_mem_cons.mpr ⟨h5, List.forall_mem_nil _⟩⟩⟩) hw
theorem in_end {h₀ : Heap} {L : Addr} {led : List (Addr × Obj)} {fv ov tv : Value} {own news' : List (Addr × Obj)} {s₁ : Shared} {h' : Heap} {m' : Str → Option Value} {tk : Nat}
    (F : Fr h₀ L h' m') (N : News h₀ L h' news') (hf : m' (Str.ofString "figures") = some fv) (ho : m' (Str.ofString "octets") = some ov) (ht : m' (Str.ofString "two") = some tv) (hl : ∀ p ∈ led, p ∈ news') (hw : ∀ p ∈ own, p ∈ news') :
    InvEndN h₀ L (KS (fun _ : Unit => led) (fun _ => [(Str.ofString "figures", fv), (Str.ofString "octets", ov), (Str.ofString "two", tv)]) (fun _ _ => True) 0) own (led.map (·.1)) s₁ { s₁ with heap := h', toks := tk } :=
  ks_end () F N (List.forall_mem_cons.mpr ⟨hf, List.forall_mem_cons.mpr ⟨ho, List.forall_mem_cons.mpr ⟨ht, List.forall_mem_nil _⟩⟩⟩) trivial rfl hl hw
abbrev eqs (P : Str) (n : Nat) : Str := P ++ Txt.mul (Str.ofString "=") ((-(n : Int)).fmod 4)
theorem octInts_byteArr {O : List Int} (h : ∀ x ∈ O, 0 ≤ x ∧ x < 256) : octInts (byteArr O) = O := by
  unfold octInts byteArr
  rw [List.map_map]
  refine (List.map_congr_left fun x hx => ?_).trans (List.map_id O)
  have := h x hx
  show (x.toNat.toUInt8.toNat : Int) = x
  rw [show x.toNat.toUInt8.toNat = x.toNat from UInt8.toNat_ofNat_of_lt' (by show x.toNat < 256; omega)]
  omega
theorem octs_nat {l : List Nat} (h : ∀ c ∈ l, c < 128) : ((octs l).map (·.toNat)).toList = l := by
  unfold octs
  rw [Array.toList_map, List.map_map]
  refine (List.map_congr_left fun x hx => ?_).trans (List.map_id l)
  have := h x hx
  exact UInt8.toNat_ofNat_of_lt' (by show x < 256; omega)
theorem textOf_octs {l : List Nat} (h : ∀ c ∈ l, c < 128) : textOf (octs l) = tx l := tx_eq (octs_nat h)
theorem octs_ascii {l : List Nat} (h : ∀ c ∈ l, c < 128) : ∀ c ∈ octs l, c < 128 := by
  intro c hc
  unfold octs at hc
  obtain ⟨n, hn, rfl⟩ := List.mem_map.mp (List.mem_toArray.mp hc)
  have hn := h n hn
  rw [UInt8.lt_iff_toNat_lt]
  rw [show n.toUInt8.toNat = n from UInt8.toNat_ofNat_of_lt' (by show n < 256; omega)]
  exact hn
theorem dotF_ne {l : List Nat} (b : Bool) (h : l ≠ []) : dotF b l ≠ [] := by
  cases l with
  | nil => exact absurd rfl h
  | cons c r => unfold dotF; split <;> simp
theorem text_ascii {two : Str} (h : two ∈ twos) {F : List Int} (hF : ∀ x ∈ F, 0 ≤ x ∧ x < 64) : ∀ c ∈ (textFig two F).cps.toList, c < 128 := fun c hc => signs_ascii h c (text_in h hF c hc)
theorem written_text {two : Str} (h : two ∈ twos) (F : List Int) (k : Nat) (hF : ∀ x ∈ F, 0 ≤ x ∧ x < 64) (hl : F.length = 4 * k) : written (byteArr (octF F)) two = octs (textFig two F).cps.toList := by
  have hO : octInts (byteArr (octF F)) = octF F := octInts_byteArr (by rw [octF_eq F hF]; exact octG_range F)
  show ((byteArr (b2run (octInts (byteArr (octF F)))).out).map fun c => (transTab #[43, 47] (asciiOf two)).getD c.toNat c) = _
  rw [hO, (written_figs F k hF hl).1, ascii_two h, text_list h hF]
  unfold byteArr octs
  rw [List.map_toArray, List.map_map, List.map_map, List.map_map]
  congr 1
  refine List.map_congr_left fun f hf => ?_
  have hf := hF f hf
  show (transTab #[43, 47] #[s0 two, s1 two]).getD ((b64ch f).toNat.toUInt8).toNat ((b64ch f).toNat.toUInt8) = ((sg two).getD f.toNat 0).toUInt8
  rw [trans2]
  have := check1 h f.toNat (by omega)
  rwa [show ((f.toNat : Nat) : Int) = f by omega] at this
theorem eqs_list (P : Str) (n : Nat) : (eqs P n).cps.toList = P.cps.toList ++ List.replicate ((-(n : Int)).fmod 4).toNat 61 := by
  show (P ++ Txt.mul (Str.ofString "=") ((-(n : Int)).fmod 4)).cps.toList = _
  rw [Str.cps_append, Array.toList_append]
  congr 1
  have h1 : (-(n : Int)).fmod 4 < 4 := Int.fmod_lt_of_pos _ (by decide)
  have h2 : 0 ≤ (-(n : Int)).fmod 4 := Int.fmod_nonneg_of_pos _ (by decide)
  generalize (-(n : Int)).fmod 4 = k at *
  have h3 : k = 0 ∨ k = 1 ∨ k = 2 ∨ k = 3 := by omega
  rcases h3 with rfl | rfl | rfl | rfl <;> decide +kernel
theorem turned_ints {two : Str} (h : two ∈ twos) (x : Str) : octInts (turned x two) = x.cps.toList.map fun c => ((tau two c).toNat : Int) := by
  show ((((asciiOf x).map fun c => (transTab (asciiOf two) #[43, 47]).getD c.toNat c)).toList.map fun n : UInt8 => (n.toNat : Int)) = _
  rw [ascii_two h]
  unfold asciiOf
  rw [Array.map_map, Array.toList_map, List.map_map]
  refine List.map_congr_left fun c _ => ?_
  show (((transTab #[s0 two, s1 two] #[43, 47]).getD c.toUInt8.toNat c.toUInt8).toNat : Int) = _
  rw [trans2]
theorem read_page {two P : Str} (h : PageOk two P) : a2run (octInts (turned (eqs P (dueOf two P.cps.toList).length) two)) =
    ⟨octG (dueOf two P.cps.toList), (((dueOf two P.cps.toList).length % 4 : Nat) : Int), numOf (dueOf two P.cps.toList) % 2 ^ (6 * (dueOf two P.cps.toList).length % 8), (((-((dueOf two P.cps.toList).length : Int)).fmod 4).toNat : Int)⟩ := by
  rw [turned_ints h.two_in, eqs_list, List.map_append, List.map_replicate, check4 h.two_in, a2_pad, a2_page h.two_in _ h.signs]
  dsimp only
  rw [Int.zero_add]
theorem pg0 (two : Str) (F : List Int) : page 0 two F = tx (fixF false (textFig two F).cps.toList) := by unfold page; rw [if_pos rfl]
theorem pg1 (two : Str) (F : List Int) : page 1 two F = tx (dotF true (fixF false (textFig two F).cps.toList)) := by unfold page; rw [if_neg (by decide), if_pos rfl]
theorem pg2 (two : Str) (F : List Int) : page 2 two F = tx (dotF true (textFig two F).cps.toList) := by unfold page; rw [if_neg (by decide), if_neg (by decide)]
section
variable (w : World) (mean : ExcName → Option Value) (mg mb : Str → Option Value)
theorem l_pages (two : Str) (ns : List Int) (t : Tok) (h : two ∈ twos) : Says w mean mg mb 4 (call (.ref 184) [.str (textFig two (figsOf ns)) t]) Plain (NewStrs [page 0 two (figsOf ns), page 1 two (figsOf ns), page 2 two (figsOf ns)]) := by
  obtain ⟨q, hq, _, hq2⟩ := figs_four (ns := ns)
  have hx := text_len h (figs_range (ns := ns))
  have hx : (textFig two (figsOf ns)).length ≤ 20 := by omega
  rw [pg0, pg1, pg2]
  have C := c_pages w mean mg mb (textFig two (figsOf ns)) t
  rw [page0, page1, page2] at C
  generalize hX : textFig two (figsOf ns) = x at *
  have hl := lfs_len x
  have h1 := split_len x
  have h2 := split_len (lfs x)
  have p1 := split_part x
  have p2 := split_part (lfs x)
  have d1 := dot_part p1
  have d2 := dot_part p2
  have := C (by omega) (Nat.le_trans (rep_len2 x) (by omega)) (by omega) (by omega) (by omega)
    (joinOk_of (by rw [List.length_map]; omega) (fun p hp => Nat.le_trans (d1 p hp) (by omega)) (by decide))
    (joinOk_of (by omega) (fun p hp => Nat.le_trans (p2 p hp) (by omega)) (by decide))
    (joinOk_of (by rw [List.length_map]; omega) (fun p hp => Nat.le_trans (d2 p hp) (by omega)) (by decide))
  subst hX
  exact this
theorem l_made (two : Str) (ns : List Int) (t u : Tok) (h : two ∈ twos) : Says w mean mg mb 5 (call (.ref 191) [.bytes (byteArr (octF (figsOf ns))) t, .str two u]) Plain (NewStrs [page 0 two (figsOf ns), page 1 two (figsOf ns), page 2 two (figsOf ns)]) := by
  obtain ⟨q, hq, hq1, hq2⟩ := figs_four (ns := ns)
  have hF := figs_range (ns := ns)
  have hx := text_len h hF
  have hT := text_ascii h hF
  have hw := written_text h (figsOf ns) q hF hq
  have hO : octInts (byteArr (octF (figsOf ns))) = octF (figsOf ns) := octInts_byteArr (by rw [octF_eq _ hF]; exact octG_range _)
  have hlist := len_list (textFig two (figsOf ns))
  have hquo : quoted (written (byteArr (octF (figsOf ns))) two) = octs (dotF true (textFig two (figsOf ns)).cps.toList) := by
    show octs (dotF true ((written (byteArr (octF (figsOf ns))) two).map (·.toNat)).toList) = _
    rw [hw, octs_nat hT]
  have hD : ∀ c ∈ dotF true (textFig two (figsOf ns)).cps.toList, c < 128 := fun c hc => by
    rcases dot_in _ _ c hc with h | h
    · exact hT c h
    · omega
  have hne : (textFig two (figsOf ns)).cps.toList ≠ [] := fun e => by rw [e] at hlist; simp at hlist; omega
  have C := c_made w mean mg mb (byteArr (octF (figsOf ns))) two t u (by rw [byteArr_size, octF_eq _ hF, octG_len]; omega) (by rw [hO]; exact (written_figs _ q hF hq).2) (two_len h) (two_ascii h)
    (by rw [hw]; unfold octs; rw [List.size_toArray, List.length_map]; omega) (by rw [hw]; exact octs_ascii hT) (by rw [hquo]; exact octs_ascii hD)
    (by rw [hquo]; unfold octs; rw [List.size_toArray, List.length_map]; exact fun e => dotF_ne true hne (List.length_eq_zero_iff.mp e))
  rw [hquo, hw, textOf_octs hT, textOf_octs hD, tx_list] at C
  rw [pg0, pg1, pg2]
  exact C
theorem l_b64d (two P : Str) (D : List Int) (t u : Tok) (h : PageOk two P) (hD : dueOf two P.cps.toList = D) : Says2 w mean mg mb 3 (call (.ref 155) [.str (eqs P D.length) t, .str two u]) Plain ((D.length : Int).fmod 4 ≠ 1) (fun _ v _ => ∃ t', v = .bytes (byteArr (octF D)) t') := by
  have hr := read_page h
  rw [hD] at hr
  have hDr : ∀ x ∈ D, 0 ≤ x ∧ x < 64 := hD ▸ due_range h.two_in P.cps.toList
  have e4 : (D.length : Int).fmod 4 = ((D.length % 4 : Nat) : Int) := by rw [Int.fmod_eq_emod_of_nonneg _ (by decide)]; omega
  have ek : (((-(D.length : Int)).fmod 4).toNat : Int) = (-(D.length : Int)) % 4 := by rw [Int.fmod_eq_emod_of_nonneg _ (by decide)]; omega
  have hsm : P.cps.toList.length ≤ 100 := h.small
  have hk : ((-(D.length : Int)).fmod 4).toNat ≤ 3 := by omega
  have C := c_b64d w mean mg mb (eqs P D.length) two t u ?_ ?_ (two_ascii h.two_in) (two_len h.two_in) ?_
  · rw [hr] at C
    dsimp only at C
    rw [← e4, ← octF_eq D hDr] at C
    exact C
  · intro c hc
    have hc := Array.mem_toList_iff.mpr hc
    rw [eqs_list] at hc
    rcases List.mem_append.mp hc with hc | hc
    · rcases h.signs c hc with h1 | h1
      · exact signs_ascii h.two_in c h1
      · omega
    · have := (List.mem_replicate.mp hc).2; omega
  · rw [← len_list, eqs_list, List.length_append, List.length_replicate]; omega
  · rw [hr]
    dsimp only
    intro h1
    omega
theorem page_ok (k : Nat) (two : Str) (ns : List Int) (h : two ∈ twos) : PageOk two (page k two (figsOf ns)) := p_page_ok k two ns h
theorem join_figs (two : Str) (ns : List Int) (h : two ∈ twos) : JoinOk (Str.ofString "") ((figsOf ns).map (signAt two)) = true := p_join_figs two ns h
end
end PartFn13
section PartFn14
open PySem PySem.W PyProof.Rows
set_option maxRecDepth 100000
set_option maxHeartbeats 4000000
open PySem.Calls
section
variable {w : World} {mean : ExcName → Option Value} {mg mb : Str → Option Value} {t : Sem Value} {k : Nat} {P : Heap → Prop} {good : Prop} {R : Heap → Value → Heap → Prop}
/-- a refused call leaves the caller's ledger as it stood -/
theorem Says2.useH {dp un : Nat} {gd : Option (List Code)} {env : Env} {outer : List Env} {A₀ : Around} {base h₀ : Heap} {L : Addr} {m : Str → Option Value} {news : List (Addr × Obj)} {s : Shared} {Q E : Value → Shared → Prop}
    (C : Says2 w mean mg mb k t P good R) (B : Below A₀ base outer h₀) (F : Fr h₀ L s.heap m) (X : (hd.heap_39 w.params).In h₀) (N : News h₀ L s.heap news) (T : TopAt mean mg mb h₀)
    (hf : env.frame = some L) (hke : env.scope.kind = .function) (hdp : dp + k < recursionLimit) (hun : un + 8 * k < cLine) (hP : P s.heap)
    (bad : ¬ good → ∀ (e : Addr) (h' : Heap) (tk' : Nat) (t' : Addr) (vs : List Value), RaisedK base (env :: outer) e (.ref 92) t' vs news h' → s.heap.UpToSlots h' → E (.ref e) { s with heap := h', toks := tk' })
    (ret : good → ∀ (v : Value) (h' : Heap) (tk' : Nat), Fr h₀ L h' m → News h₀ L h' news → Grow s.heap h' → R s.heap v h' → Q v { s with heap := h', toks := tk' }) :
    wpAny (model Challenge.rw_pa0025_01.row.prog w) (ctx dp un gd (env :: outer)) t Q E s := by
  have B1 := pushX B F hf hke
  have hin : ∀ env' ∈ (env :: outer), ∀ b, env'.frame = some b → b ∈ (env :: outer).filterMap (·.frame) := fun env' he b hb => List.mem_filterMap.mpr ⟨env', he, hb⟩
  have st : base.StaysIn (hideAll s.heap ((env :: outer).filterMap (·.frame))) := fun b o q => hideAll_get _ (B1.stays b o q) fun hm => by
    rw [(B1.frames.mem hm).1] at q; cases q
  have hl : ∀ q ∈ news, (hideAll s.heap ((env :: outer).filterMap (·.frame))).get? q.1 = some q.2 ∧ base.get? q.1 = none := fun q hq => by
    refine ⟨hideAll_get _ (N q hq).1 fun hm => ?_, fresh_of_stays B.stays (N q hq).2.2⟩
    obtain ⟨env', he, hf'⟩ := List.mem_filterMap.mp hm
    rcases List.mem_cons.mp he with rfl | he
    · rw [hf] at hf'
      exact (N q hq).2.1 (Option.some.inj hf').symm
    · obtain ⟨o, ho, _⟩ := (B.frames.mem (List.mem_filterMap.mpr ⟨env', he, hf'⟩)).2
      rw [(N q hq).2.2] at ho; cases ho
  refine C dp un gd (env :: outer) (hideAll s.heap ((env :: outer).filterMap (·.frame))) s.heap _ _ _ _ Q E ⟨rfl, fun b o q => of_hideAll _ q, funFrames_hide B1.frames hin⟩ (X.keeps F.keep) (T.keeps F.keep) hdp hun hP (fun g e h' tk' t' vs led R U => ?_) (fun g v h' tk' gr r => ret g v h' tk' (F.keeps gr) (N.grown gr) gr r)
  obtain ⟨⟨Bx, hB, _, hfl, hnew⟩, htup⟩ := R
  exact bad g e h' tk' t' vs ⟨⟨Bx, fun b o q => hB b o (st b o q), fun q hq => ⟨hB _ _ (hl q hq).1, (hl q hq).2⟩, hfl, hnew⟩, htup⟩ U
end
section
variable {prog : Program} {w : World} {A₀ : Around} {E : Value → Shared → Prop} {s' : Shared} {h₀ h : Heap} {outer : List Env} {L a e t : Addr} {m : Str → Option Value} {cn : Str} {cs : Scope} {ccd : Value} {cl : List (Str × Addr)}
  {vs : List Value} {b₀ : Stmt} {suite : List Stmt} {pos np : Pos} {rest : List ExceptHandler} {Q : Flow → Shared → Prop} {news : List (Addr × Obj)} {KF : Frag} {C : Addr} {bmB : List Value} {newId : String}
  {p : Program} {loose : List Str} {mg mb : Str → Option Value} {x y : Str} {T' : String}
/-- an exception of the text's own class, taken by a clause of a built-in base, in a frame with cells -/
theorem caught_X (K : Below A₀ h₀ outer h₀) (F : Fr h₀ L h m) (hsm : h.UpToSlots s'.heap) (R : RaisedK h₀ (envX cn cs L a ccd cl :: outer) e (.ref C) t vs news s'.heap)
    (X : KF.In h₀) (T : TopRead p loose mg mb h₀) (ey : nsIn KF mainGlobals y = some (some (.ref C))) (q : excIn KF C bmB newId = true) (ex : nsIn KF mainGlobals x = some none) (hv : bootBuiltins x = some (.type T')) (hn' : x ≠ "__name__")
    (hexc : isSubtype (.type T') (.type "BaseException") = pure true) (hnt : isSubtype (.type ((Manifest.find? T').elim "type" fun y => y.metatype)) (.type "tuple") = pure false) (hb : bmB.contains (.type T') = true)
    (k : ∀ h', Fr h₀ L h' m → News h₀ L h' news →
      wpAny (model prog w) ((A₀.deeper (envX cn cs L a ccd cl)).mark (some (.ref e))) (execs (b₀ :: suite) (envX cn cs L a ccd cl)) Q E { s' with heap := h' })
    (hk : cs.kind = .function := by rfl) (hx : (envX cn cs L a ccd cl).kindOf x = some .globalImplicit := by rfl) (hd : (x == ("__debug__" : Str)) = false := by decide)
    (hE : PassesOwnAt (model prog w) ((A₀.deeper (envX cn cs L a ccd cl)).mark (some (.ref e))) (A₀.deeper (envX cn cs L a ccd cl)) (envX cn cs L a ccd cl) E := by passes_own) :
    wpAny (model prog w) (A₀.deeper (envX cn cs L a ccd cl)) (noteFrame (.ref e) (envX cn cs L a ccd cl))
      (fun _ s₂ => wpAny (model prog w) (A₀.deeper (envX cn cs L a ccd cl)) (setFlight (.ref e) none) (fun _ s₃ =>
        wpAny (model prog w) (A₀.deeper (envX cn cs L a ccd cl)) (handleBy (.ref e) (envX cn cs L a ccd cl) (.ExceptHandler (some (.Name x np)) none (b₀ :: suite) pos :: rest)) Q E s₃) E s₂) E s' := by
  obtain ⟨⟨B, hB, hl, hfl, _⟩, _⟩ := R
  have hL : B.get? L = none := by
    obtain ⟨_, ⟨L', _, hf, hn', _⟩, _⟩ := hfl.2.2.1
    obtain rfl : L = L' := Option.some.inj hf
    exact hn'
  refine wpAny_looks_onW (Around.frames_deeper K.stack) rfl hfl fun h₄ hheld₄ hsm₄ => ?_
  refine wpAny_landsW hheld₄ fun h₅ hheld hsm₅ => ?_
  have hup := hsm.trans (hsm₄.trans hsm₅)
  have hheld' := flyingW_base hB hheld
  have F₅ := F.of_stays hheld'.1 hup
  obtain ⟨ob, hob, hobc⟩ := hheld'.there
  refine wpAny_handleBy_cons (codeAny_handlers_test (nameX_B F₅ X T ex hv hn' ?_ hk hx hd)) (by intro q; cases q)
  obtain ⟨bm, N, nm, qn, bs, hdct, sn, sub, ab, col, dd, k0, k1, k2, k3, k5, mN, hC, hN, hni, TL⟩ := ((own_of_in X T ey q).keeps F₅.keep).obj
  refine wpAny_excMatches_sub_type hC hob hobc hexc hnt ?_
  rw [TL.hasType hb]
  refine codeAny_handlers_suite (lands_againW hheld fun h₆ hfl₆ hsm₆ => ?_)
  have F₆ := F.of_stays (flyingW_base hB hfl₆).1 (hup.trans hsm₆)
  exact wpAny_passesOwnAt hE (k h₆ F₆ fun q hq => ⟨hfl₆.1 _ _ (hl q hq).1, (fun z => by have := (hl q hq).1; rw [z, hL] at this; cases this), (hl q hq).2⟩)
end
end PartFn14
section PartLaw
open PySem PySem.W PyProof.Rows
set_option maxRecDepth 100000
set_option maxHeartbeats 8000000
local macro_rules | `(tactic| walk_at "mine:list") => `(tactic| (refine' led_isList ?N2 ?m2 ?c2 ?d2; (case N2 => k_asm); (case m2 => k_mem); (case c2 => exact rfl); (case d2 => exact rfl)))
local macro_rules | `(tactic| walk_at "call ref") => `(tactic| (k_here; refine hold ?_))
local macro_rules | `(tactic| walk_at "exec For Name List cons nil") => `(tactic| (k_here; (rename Fr _ _ _ _ => lF'); (with_unfolding_all refine' For_turns lF' ?_; k_whole)))
local macro_rules | `(tactic| walk_at "exec For Tuple Call cons nil") => `(tactic| (k_here; (rename Fr _ _ _ _ => lF'); (with_unfolding_all refine' For_turns lF' ?_; k_whole)))
local macro_rules | `(tactic| walk_at "pyIter ref") => `(tactic| (k_here; (with_reducible show wpAny _ _ (pyIter (Value.ref _)) (fun it s₂ => TurnsAt _ _ _ _ _ _ _ _ _ it s₂) _ _); refine hold ?_))
local macro_rules | `(tactic| walk_at "call type:zip") => `(tactic| (k_here; refine hold ?_))
local macro_rules | `(tactic| walk_at "eval ListComp") => `(tactic| (k_here; k_dflt (refine LCg.ListComp_U (F₀ := by k_asm) (by with_unfolding_all rfl) (by decide) (by rfl) (by decide) (by rfl) ?_)))
local macro_rules | `(tactic| walk_at "subscriptTail") => `(tactic| (k_here; (with_reducible show wpAny _ _ (subscriptTail _ _ (Value.str _ _) (Value.int _ _)) _ _ _); (refine KXi.item (n := 64) (by assumption) (by omega) (by omega) (by decide) ?_); intro kxiE))
local macro_rules | `(tactic| walk_at "call builtin:str.join") => `(tactic| (k_here; refine' SC.join ?hl ?h1 ?ok ?_; (case hl => walk_at "mine:list"); (case h1 => assumption); (case ok => exact join_figs _ _ (by assumption)); intro _ _))
local macro_rules | `(tactic| walk_at "exec Assign cons ListComp") => `(tactic| (k_here; k_dflt (refine Assign_ListComp_S (_F₀ := by k_asm) (by rfl) (by with_unfolding_all rfl) (by with_unfolding_all rfl) (by decide) (by rfl) (by decide) (by rfl) (by rfl) (by rfl) ?_)))
local macro_rules | `(tactic| walk_at "InvEndN") => `(tactic| (refine hold ?_))
local macro_rules | `(tactic| walk_at "call builtin:str.index") => `(tactic| (k_here; (refine' index_sign ?h1 ?_; (case h1 => assumption))))
local macro_rules | `(tactic| walk_at "exec Try cons cons cons nil") => `(tactic| (k_here; refine wpAny_Try_except ?_))
local macro_rules | `(tactic| walk_at "noteFrame ref") => `(tactic| (k_here; refine hold ?_))
local macro_rules | `(tactic| walk_at "call type:type") => `(tactic| (k_here; (with_reducible refine type_bytes ?_)))
theorem law_holds : PySem.Challenge.rw_pa0025_01.Holds := by
  refine hd ?_
  k_go0
  w_nolog k_steps
  unfold Hold
  refine' Says.use (c_figs _ _ _ _ _ _ _ ?h1 ?h2) ?B ?F ?X ?N ?T ?hf ?hk ?d ?u ?P ?_
  case P => walk_at "mine:list"
  case h1 => assumption
  case h2 => exact cap63
  walk_at "mine:use"
  intro v9 h9 tk9 F9 N9 g9 r9
  obtain ⟨a9, vs9, n9, r9, hl9, hfigs, hn9⟩ := r9
  subst r9
  have ne9 := news_new (by assumption) hn9
  try simp only [List.forall_mem_cons, List.forall_mem_nil, and_true] at ne9
  replace N9 := news_add (by assumption) N9 hl9 hn9
  (try dsimp only)
  (try k_fold)
  w_nolog k_steps
  unfold Hold
  refine' Says.use (c_octs _ _ _ _ _ _ _ hfigs figs_range figs_len) ?B ?F ?X ?N ?T ?hf ?hk ?d ?u ?P ?_
  case P => walk_at "mine:list"
  walk_at "mine:use"
  walk_at "mine:got"
  (try dsimp only)
  (try k_fold)
  w_nolog k_steps
  unfold Hold
  rename Fr _ _ _ _ => lF'
  rename News _ _ _ _ => lN'
  replace lN' := news_drop lN'
  refine iter_listTurns rfl lF' lN' (.head _) rfl rfl fun I hI => ?_
  have l9 := hI
  k_lt l9
  refine outer_by hI (by with_unfolding_all rfl) (by with_unfolding_all rfl) ⟨_, by assumption⟩ ?turn ?done
  case done =>
    clear lF' lN'
    intro o u h tk F' N'
    simp only [kstB] at F'
    dsimp only
    w_nolog k_steps
  case turn =>
    intro o a v u h tk ha hv hoP F' its hits N'
    obtain ⟨x9, hd9⟩ := hoP
    obtain ⟨two, t9, htwo, rfl⟩ := two_of (ts := twos) (.cons _ _ (.cons _ _ (.cons _ _ (.cons _ _ (.cons _ _ (.cons _ _ .nil)))))) ha hv
    clear lF' lN' ha hv
    have hlen2 : two.length ≤ 1048576 := by rw [two_len htwo]; decide
    have hs64 : (Str.ofString "ABCDEFGHIJKLMNOPQRSTUVWXYZabcdefghijklmnopqrstuvwxyz0123456789" ++ two).length = 64 := signs_len htwo
    simp only [kstB] at F'
    simp only [List.cons_append, List.nil_append] at N'
    dsimp only at hits N'
    w_nolog k_steps
    unfold Hold
    refine' Says.use (c_signs _ _ _ _ _ _ hlen2) ?B ?F ?X ?N ?T ?hf ?hk ?d ?u ?P ?_
    walk_at "mine:use2"
    w_nolog k_steps
    refine LCg.CompSrc.ledger rfl (by k_asm) (by k_asm) (by k_mem) (figs_size hfigs) fun g9 => ?_
    refine comp_figs two hfigs ?turn ?fin
    case turn =>
      intro f t I oI C oC D m₂ ys h tk E' hf0 hf1 hC hx F N off ne
      simp only [LCg.Off3, and_true] at off
      dsimp only
      w_nolog k_steps
      all_goals exact ⟨rfl, _, rfl⟩
    case fin =>
      intro l9 hx9
      w_nolog k_steps
      unfold Hold
      refine' Says.use (l_pages _ _ _ _ _ _ _ htwo) ?B ?F ?X ?N ?T ?hf ?hk ?d ?u ?P ?_
      case P => trivial
      walk_at "mine:use"
      intro v9 h9 tk9 F9 N9 g9 r9
      obtain ⟨a9, vs9, n9, r9, hl9, hs9, hn9⟩ := r9
      subst r9
      obtain ⟨u1, u2, u3, e9⟩ := strs3 hs9
      subst e9
      have ne9 := news_new (by assumption) hn9
      try simp only [List.forall_mem_cons, List.forall_mem_nil, and_true] at ne9
      replace N9 := news_add (by assumption) N9 hl9 hn9
      (try dsimp only)
      (try k_fold)
      w_nolog k_steps
      unfold Hold
      refine' Says.use (l_made _ _ _ _ _ _ _ _ htwo) ?B ?F ?X ?N ?T ?hf ?hk ?d ?u ?P ?_
      case P => trivial
      walk_at "mine:use"
      intro v9 h9 tk9 F9 N9 g9 r9
      obtain ⟨a9, vs9, n9, r9, hl9, hs9, hn9⟩ := r9
      subst r9
      obtain ⟨u1, u2, u3, e9⟩ := strs3 hs9
      subst e9
      have ne9 := news_new (by assumption) hn9
      try simp only [List.forall_mem_cons, List.forall_mem_nil, and_true] at ne9
      replace N9 := news_add (by assumption) N9 hl9 hn9
      (try dsimp only)
      (try k_fold)
      w_nolog k_steps
      unfold Hold
      rename Fr _ _ _ _ => jF'
      rename News _ _ _ _ => jN'
      refine ktu_zip rfl jF' jN' (.head _) rfl rfl (.tail _ (.head _)) rfl rfl fun I2 hI2 => ?_
      have l92 := hI2
      k_lt l92
      refine inner_by hI2 (by with_unfolding_all rfl) (by with_unfolding_all rfl) (by with_unfolding_all rfl) ?turn ?done
      case done =>
        clear jF' jN'
        intro u h tk F' N'
        simp only [kstB] at F'
        dsimp only
        w_nolog k_steps
        all_goals (unfold Hold; (rename Fr _ _ _ _ => fE'); (rename News _ _ _ _ => nE'); first
          | (refine' out_end fE' nE' ?ef ?eo ?e1 ?e2 ?e5 ?ed ?ew; (case e1 => k_mem); (case e2 => k_mem); (case e5 => k_mem); (case ed => assumption); (case ef => with_unfolding_all rfl); (case eo => with_unfolding_all rfl); (case ew => lcg_sub))
          | (refine' in_end fE' nE' ?ef ?eo ?et ?el ?ew; (case ef => with_unfolding_all rfl); (case eo => with_unfolding_all rfl); (case et => with_unfolding_all rfl); (case el => lcg_sub); (case ew => lcg_sub)))
      case turn =>
        intro a v u h tk ha hv F'
        obtain ⟨P, t1, t2, hP, rfl⟩ := pairs3 (G := PageOk two) (page_ok 0 two _ htwo) (page_ok 1 two _ htwo) (page_ok 2 two _ htwo) ha
        obtain ⟨T', t', rfl, hT'⟩ := hv
        dsimp only at hT'
        clear jF' jN' ha
        simp only [kstB] at F'
        ktu_objs
        dsimp only
        w_nolog k_steps
        refine ⟨_, _, _, rfl, rfl, by k_asm, by k_asm, page_ascii hP, page_size hP, fun s2 hs2 => ?_⟩
        obtain ⟨g2, rfl⟩ := hs2
        refine comp_due two ?turn ?fin
        case turn =>
          intro c t I oI C oC D m₂ ys h tk E' hC hx F N off ne
          dsimp only
          walk1
          walk1
          walk1
          walk1
          walk1
          refine ite_of (fun hin9 => ?_) (fun hin9 => ?_)
          · iterate 9 walk1
            refine end_same (by k_asm) (by k_asm) off ?_
            exact ⟨hin9, _, rfl⟩
          · refine end_same F N off ?_
            exact hin9
        case fin =>
          intro ys hdue
          have hPl := hP.small
          have hDr := due_range htwo P.cps.toList
          have hDl := Nat.le_trans (due_len two P.cps.toList) (show P.cps.toList.length ≤ 100 from hP.small)
          generalize hDe : dueOf two P.cps.toList = D at hdue hDr hDl
          walk1
          walk1
          w_nolog k_steps
          unfold Hold
          refine' Says2.useH (l_b64d _ _ _ _ _ _ _ _ _ ?h1 ?h2) ?B ?F ?X ?N ?T ?hf ?hk ?d ?u ?P ?bad ?ret
          case P => trivial
          case h1 => assumption
          case h2 => assumption
          case B => k_asm
          case F => k_asm
          case X => k_asm
          case N => k_asm
          case T => k_asm
          case hf => exact rfl
          case hk => exact rfl
          case d => ktr_room
          case u => ktr_units
          case bad =>
            intro hbad9 e9 h9 tk9 t9 vs9 R9 U9
            w_nolog k_steps
            unfold Hold
            ((rename RaisedK _ _ _ _ _ _ _ _ => rkX); (with_unfolding_all refine' caught_X (bmB := [.type "ValueError", .type "Exception", .type "BaseException", .type "object"]) (newId := "ValueError.__new__") (T' := "ValueError") ?K ?F ?U ?R ?X ?T ?ey ?q ?ex PyProof.Rows.Boot.«ValueError» ?hn PySem.F.isExc_ValueError PySem.F.notTuple_ValueError ?hb ?_; (case K => assumption); (case F => assumption); (case U => assumption); (case R => exact rkX); (case X => k_asm); (case T => k_asm); (case ey => k_ownname); (case q => k_exc); (case ex => k_is); (case hn => decide); (case hb => rfl); k_whole); intro h' F' N')
            w_nolog k_steps
            all_goals (unfold Hold; (rename Fr _ _ _ _ => fE'); (rename News _ _ _ _ => nE'); first
              | (refine' out_end fE' nE' ?ef ?eo ?e1 ?e2 ?e5 ?ed ?ew; (case e1 => k_mem); (case e2 => k_mem); (case e5 => k_mem); (case ed => assumption); (case ef => with_unfolding_all rfl); (case eo => with_unfolding_all rfl); (case ew => lcg_sub))
              | (refine' in_end fE' nE' ?ef ?eo ?et ?el ?ew; (case ef => with_unfolding_all rfl); (case eo => with_unfolding_all rfl); (case et => with_unfolding_all rfl); (case el => lcg_sub); (case ew => lcg_sub)))
          case ret =>
            intro hgood9 v9 h9 tk9 F9 N9 g9 r9
            obtain ⟨t9, r9⟩ := r9
            subst r9
            (try dsimp only)
            (try k_fold)
            w_nolog k_steps
            unfold Hold
            refine' Says.use (c_octs _ _ _ _ _ _ _ hdue hDr hDl) ?B ?F ?X ?N ?T ?hf ?hk ?d ?u ?P ?_
            case P => walk_at "mine:list"
            walk_at "mine:use"
            walk_at "mine:got"
            (try dsimp only)
            (try k_fold)
            w_nolog k_steps
            all_goals (unfold Hold; (rename Fr _ _ _ _ => fE'); (rename News _ _ _ _ => nE'); first
              | (refine' out_end fE' nE' ?ef ?eo ?e1 ?e2 ?e5 ?ed ?ew; (case e1 => k_mem); (case e2 => k_mem); (case e5 => k_mem); (case ed => assumption); (case ef => with_unfolding_all rfl); (case eo => with_unfolding_all rfl); (case ew => lcg_sub))
              | (refine' in_end fE' nE' ?ef ?eo ?et ?el ?ew; (case ef => with_unfolding_all rfl); (case eo => with_unfolding_all rfl); (case et => with_unfolding_all rfl); (case el => lcg_sub); (case ew => lcg_sub)))
end PartLaw
end Mine
set_option maxRecDepth 100000 in
set_option maxHeartbeats 8000000 in
theorem PySem.Challenge.cw_pa0025_01_holds : PySem.Challenge.rw_pa0025_01.Holds := by
  exact Mine.law_holds
