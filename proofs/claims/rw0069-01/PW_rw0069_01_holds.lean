import PyProof.Rows.All
import Wide.All
import OpenK.AllK
import Wide.FinOn
import PySem.Challenge.RW_rw0069_01
set_option Elab.async false
set_option maxRecDepth 100000
set_option maxHeartbeats 8000000

-- part RM
section
open PySem PySem.Sre
namespace Mine
/-- many steps of the matcher -/
def itM : Nat → M → M
  | 0, m => m
  | n + 1, m => itM n m.step
theorem it1 (m : M) : itM 1 m = m.step := rfl
theorem it2 (m : M) : itM 2 m = m.step.step := rfl
theorem it3 (m : M) : itM 3 m = m.step.step.step := rfl
theorem it5 (m : M) : itM 5 m = itM 3 m.step.step := rfl
theorem step_done {m : M} (h : m.outcome.isSome = true) : m.step = m := by unfold M.step; rw [if_pos h]
theorem itM_done {m : M} (h : m.outcome.isSome = true) : ∀ n, itM n m = m
  | 0 => rfl
  | n + 1 => by rw [itM, step_done h, itM_done h n]
theorem itM_add : ∀ (a b : Nat) (m : M), itM (a + b) m = itM b (itM a m)
  | 0, b, m => by rw [Nat.zero_add]; rfl
  | a + 1, b, m => by rw [Nat.succ_add]; exact itM_add a b m.step
theorem runFor_it : ∀ (n : Nat) (m : M), m.runFor n = itM n m
  | 0, _ => rfl
  | n + 1, m => by
    show (if m.outcome.isSome then m else M.runFor n m.step) = itM n m.step
    split
    · rename_i h; rw [step_done h, itM_done h]
    · exact runFor_it n m.step

abbrev codeA : Array Nat := #[14, 4, 0, 1, 1, 6, 1, 16, 46, 1]
def stA (text : Array Nat) (lim s : Nat) (first : Bool) (sn : Seen) : M :=
  { code := codeA, text, lim, start := s, lastStart := lim, pc := 5, pos := s, handed := s, outermost := first, marks := #[], frames := [{ wait := .nextStart, pc := 5, pos := s, outermost := first }], weight := 1, seen := sn }
def stA2 (text : Array Nat) (lim s : Nat) (first : Bool) (sn : Seen) : M := { stA text lim s first sn with pc := 7 }
def stA3 (text : Array Nat) (lim s : Nat) (first : Bool) (sn : Seen) : M := { stA text lim s first sn with pc := 9, pos := s + 1 }
def bolA (text : Array Nat) (s : Nat) : Bool := s == 0 || text.getD (s - 1) 0 == 10
theorem stepA1 (text : Array Nat) (lim s : Nat) (first : Bool) (sn : Seen) : (stA text lim s first sn).step = if bolA text s = true then stA2 text lim s first ((sn.add 6).add 44) else (stA text lim s first ((sn.add 6).add 44)).say false := rfl
theorem stepA2 (text : Array Nat) (lim s : Nat) (first : Bool) (sn : Seen) : (stA2 text lim s first sn).step = if s ≥ lim then (stA2 text lim s first (sn.add 16)).say false else
    if (text.getD s 0 == 46) = true then stA3 text lim s first (sn.add 16) else (stA2 text lim s first (sn.add 16)).say false := by
  show (if s ≥ lim then _ else _) = _
  split
  · rfl
  · cases h : (text.getD s 0 == 46) with
    | true => 
      show (match (Except.ok ((text.getD s 0 == 46), sn.add 16) : Except String (Bool × Seen)) with | .error why => _ | .ok (false, seen) => _ | .ok (true, seen) => _) = _
      rw [h]; rfl
    | false => 
      show (match (Except.ok ((text.getD s 0 == 46), sn.add 16) : Except String (Bool × Seen)) with | .error why => _ | .ok (false, seen) => _ | .ok (true, seen) => _) = _
      rw [h]; rfl

def stAf (text : Array Nat) (lim s : Nat) (first : Bool) (sn : Seen) (pc : Nat) : M := { stA text lim s first sn with pc := pc, answer := some false }
def stAe (text : Array Nat) (lim s : Nat) (first : Bool) (sn : Seen) (y : Option Bool) (o : Option Sre.Outcome) : M := { stA text lim s first sn with frames := [], weight := 0, answer := y, outcome := o }
theorem stepAf (text : Array Nat) (lim s : Nat) (first : Bool) (sn : Seen) (pc : Nat) : (stAf text lim s first sn pc).step = if s < lim then stA text lim (s + 1) false sn else stAe text lim s first sn (some false) none := by
  show (if s < lim then _ else _) = _
  split <;> rfl
theorem stepAe (text : Array Nat) (lim s : Nat) (first : Bool) (sn : Seen) : (stAe text lim s first sn (some false) none).step = stAe text lim s first sn (some false) (some .failed) := rfl
/-- the end of a search that found something -/
def stAm (text : Array Nat) (lim s : Nat) (first : Bool) (sn : Seen) : M := { stA text lim s first sn with handed := s + 1, frames := [], weight := 0, answer := some true, outcome := some .matched }
theorem stepA3 (text : Array Nat) (lim s : Nat) (first : Bool) (sn : Seen) : itM 3 (stA3 text lim s first sn) = stAm text lim s first (sn.add 1) := by
  have h1 : (stA3 text lim s first sn).step = { stA3 text lim s first (sn.add 1) with handed := s + 1, answer := some true } := by
    cases first <;> rfl
  rw [it3, h1]
  rfl
/-- A at s: what the pattern for a dot at a row's head sees -/
def hitA (text : Array Nat) (lim s : Nat) : Bool := bolA text s && decide (s < lim) && text.getD s 0 == 46
theorem A_hit {text : Array Nat} {lim s : Nat} (first : Bool) (sn : Seen) (h : hitA text lim s = true) : ∃ sn', itM 5 (stA text lim s first sn) = stAm text lim s first sn' := by
  simp only [hitA, Bool.and_eq_true, decide_eq_true_eq] at h
  obtain ⟨⟨h1, h2⟩, h3⟩ := h
  refine ⟨(((sn.add 6).add 44).add 16).add 1, ?_⟩
  rw [it5, stepA1, if_pos h1, stepA2, if_neg (by omega), if_pos h3, stepA3]
theorem A_miss {text : Array Nat} {lim s : Nat} (first : Bool) (sn : Seen) (h : hitA text lim s = false) : ∃ k sn' pc, k ≤ 2 ∧ itM k (stA text lim s first sn) = stAf text lim s first sn' pc := by
  cases h1 : bolA text s with
  | false => exact ⟨1, (sn.add 6).add 44, 5, by omega, by rw [it1, stepA1, if_neg (by simp [h1])]; rfl⟩
  | true =>
    refine ⟨2, ((sn.add 6).add 44).add 16, 7, by omega, ?_⟩
    rw [it2, stepA1, if_pos h1, stepA2]
    split
    · rfl
    · rename_i hs
      simp only [hitA, h1, Bool.true_and, show decide (s < lim) = true by simp; omega] at h
      rw [if_neg (by simp at h ⊢; exact h)]; rfl
/-- a search that finds -/
theorem A_find {text : Array Nat} {lim : Nat} : ∀ (n s : Nat) (first : Bool) (sn : Seen), (∀ j, j < n → hitA text lim (s + j) = false) → hitA text lim (s + n) = true →
    ∃ k f sn', k ≤ 3 * n + 5 ∧ itM k (stA text lim s first sn) = stAm text lim (s + n) f sn' := by
  intro n
  induction n with
  | zero =>
    intro s first sn _ h
    obtain ⟨sn', e⟩ := A_hit first sn h
    exact ⟨5, first, sn', by omega, e⟩
  | succ n ih =>
    intro s first sn hm h
    obtain ⟨k, sn1, pc, hk, e⟩ := A_miss (s := s) first sn (by have := hm 0 (by omega); rwa [Nat.add_zero] at this)
    have hs : s + (n + 1) < lim := by
      simp only [hitA, Bool.and_eq_true, decide_eq_true_eq] at h; exact h.1.2
    obtain ⟨k2, f, sn2, hk2, e2⟩ := ih (s + 1) false sn1 (fun j hj => by have := hm (j + 1) (by omega); rwa [show s + (j + 1) = s + 1 + j by omega] at this) (by rwa [show s + 1 + n = s + (n + 1) by omega])
    refine ⟨k + (1 + k2), f, sn2, by omega, ?_⟩
    rw [itM_add, e, itM_add, show itM 1 (stAf text lim s first sn1 pc) = stA text lim (s + 1) false sn1 by rw [it1, stepAf, if_pos (by omega)], e2, show s + 1 + n = s + (n + 1) by omega]
/-- a search that finds nothing -/
theorem A_none {text : Array Nat} {lim : Nat} : ∀ (n s : Nat) (first : Bool) (sn : Seen), s + n = lim → (∀ j, j ≤ n → hitA text lim (s + j) = false) →
    ∃ k f sn', k ≤ 3 * n + 5 ∧ itM k (stA text lim s first sn) = stAe text lim lim f sn' (some false) (some .failed) := by
  intro n
  induction n with
  | zero =>
    intro s first sn hs hm
    obtain ⟨k, sn1, pc, hk, e⟩ := A_miss (s := s) first sn (by have := hm 0 (by omega); rwa [Nat.add_zero] at this)
    obtain rfl : s = lim := by omega
    refine ⟨k + 2, first, sn1, by omega, ?_⟩
    rw [itM_add, e]
    rw [it2, stepAf, if_neg (by omega), stepAe]
  | succ n ih =>
    intro s first sn hs hm
    obtain ⟨k, sn1, pc, hk, e⟩ := A_miss (s := s) first sn (by have := hm 0 (by omega); rwa [Nat.add_zero] at this)
    obtain ⟨k2, f, sn2, hk2, e2⟩ := ih (s + 1) false sn1 (by omega) (fun j hj => by have := hm (j + 1) (by omega); rwa [show s + (j + 1) = s + 1 + j by omega] at this)
    refine ⟨k + (1 + k2), f, sn2, by omega, ?_⟩
    rw [itM_add, e, itM_add, show itM 1 (stAf text lim s first sn1 pc) = stA text lim (s + 1) false sn1 by rw [it1, stepAf, if_pos (by omega)], e2]
theorem A_start {text : Array Nat} {lim s : Nat} (h : s < lim) : ∃ sn, Sre.forSearch codeA text 0 s lim false = stA text lim s true sn := by
  refine ⟨({} : Seen).add 14, ?_⟩
  show (if (decide (s > lim) || decide (lim - s < 1)) = true then _ else _) = _
  rw [if_neg (by simp; omega)]
  rfl
theorem A_start_end {text : Array Nat} {lim : Nat} : ∃ m, Sre.forSearch codeA text 0 lim lim false = m ∧ (itM 1 m).outcome = some .failed := by
  refine ⟨_, rfl, ?_⟩
  show (M.step (if (decide (lim > lim) || decide (lim - lim < 1)) = true then _ else _)).outcome = _
  rw [if_pos (by simp)]
  rfl

abbrev codeB : Array Nat := #[14, 9, 4, 1, 2, 16, 10, 16, 13, 0, 7, 7, 16, 13, 16, 10, 15, 18, 5, 16, 10, 15, 13, 11, 16, 13, 5, 5, 0, 16, 10, 1, 15, 2, 0, 1]
def gB (text : Array Nat) (lim s : Nat) (sn : Seen) (pc pos handed : Nat) (om : Bool) (fr : List Sre.Frame) (wt : Nat) (y : Option Bool) (o : Option Sre.Outcome) : M :=
  { code := codeB, text, lim, start := s, lastStart := lim, pc, pos, handed, outermost := om, marks := #[], frames := fr, weight := wt, answer := y, outcome := o, seen := sn }
def f0 (s : Nat) : Sre.Frame := { wait := .nextStart, pc := 10, pos := s, outermost := true }
def fB (s pc : Nat) : Sre.Frame := { wait := .nextBranch, pc, pos := s, outermost := true }
def fL (s : Nat) : Sre.Frame := { wait := .lookNot, pc := 26, pos := s + 1, outermost := true }
section
variable (text : Array Nat) (lim s : Nat) (sn : Seen) (pos handed : Nat)
theorem B10 (sn : Seen) : (gB text lim s sn 10 s s true [f0 s] 1 none none).step = gB text lim s (sn.add 7) 12 s s true [fB s 11, f0 s] 2 none none := rfl
theorem B_core {pc c : Nat} {om : Bool} {fr : List Sre.Frame} {wt : Nat} {m : M} (k : String → M)
    (hs : m = if pos ≥ lim then gB text lim s (sn.add 16) pc pos handed om fr wt (some false) none else match (Except.ok ((text.getD pos 0 == c), sn.add 16) : Except String (Bool × Seen)) with
      | .error why => k why | .ok (false, seen) => gB text lim s seen pc pos handed om fr wt (some false) none | .ok (true, seen) => gB text lim s seen (pc + 2) (pos + 1) handed om fr wt none none) :
    m = if pos < lim ∧ text.getD pos 0 = c then gB text lim s (sn.add 16) (pc + 2) (pos + 1) handed om fr wt none none else gB text lim s (sn.add 16) pc pos handed om fr wt (some false) none := by
  rw [hs]
  by_cases h1 : pos ≥ lim
  · rw [if_pos h1, if_neg (by omega)]
  · rw [if_neg h1]
    by_cases h2 : text.getD pos 0 = c
    · rw [if_pos ⟨by omega, h2⟩, beq_iff_eq.mpr h2]
    · rw [if_neg (fun x => h2 x.2), beq_eq_false_iff_ne.mpr h2]
theorem B_lit {pc c : Nat} (hpc : (pc = 12 ∧ c = 13) ∨ (pc = 14 ∧ c = 10) ∨ (pc = 19 ∧ c = 10) ∨ (pc = 24 ∧ c = 13) ∨ (pc = 29 ∧ c = 10)) (om : Bool) (fr : List Sre.Frame) (wt : Nat) :
    (gB text lim s sn pc pos handed om fr wt none none).step = if pos < lim ∧ text.getD pos 0 = c then gB text lim s (sn.add 16) (pc + 2) (pos + 1) handed om fr wt none none else gB text lim s (sn.add 16) pc pos handed om fr wt (some false) none := by
  rcases hpc with ⟨rfl, rfl⟩ | ⟨rfl, rfl⟩ | ⟨rfl, rfl⟩ | ⟨rfl, rfl⟩ | ⟨rfl, rfl⟩
  all_goals exact B_core text lim s sn pos handed (fun why => (gB text lim s (sn.add 16) _ pos handed om fr wt none none).stick why) rfl
theorem B16 (fr : List Sre.Frame) (wt : Nat) : (gB text lim s sn 16 pos handed true fr wt none none).step = gB text lim s (sn.add 15) 35 pos handed true fr wt none none := rfl
theorem B21 (fr : List Sre.Frame) (wt : Nat) : (gB text lim s sn 21 pos handed true fr wt none none).step = gB text lim s (sn.add 15) 35 pos handed true fr wt none none := rfl
theorem B32 (fr : List Sre.Frame) (wt : Nat) : (gB text lim s sn 32 pos handed true fr wt none none).step = gB text lim s (sn.add 15) 35 pos handed true fr wt none none := rfl
theorem B35 (fr : List Sre.Frame) (wt : Nat) : (gB text lim s sn 35 pos handed true fr wt none none).step = gB text lim s (sn.add 1) 35 pos pos true fr wt (some true) none := rfl
theorem B_up (pc pc' : Nat) : itM 3 (gB text lim s sn pc pos handed true [fB s pc', f0 s] 2 (some true) none) = gB text lim s sn 10 s handed true [] 0 (some true) (some .matched) := rfl
theorem B_alt2 (pc : Nat) : (gB text lim s sn pc pos handed true [fB s 11, f0 s] 2 (some false) none).step = gB text lim s sn 19 s s true [fB s 18, f0 s] 2 none none := rfl
theorem B_alt3 (pc : Nat) : (gB text lim s sn pc pos handed true [fB s 18, f0 s] 2 (some false) none).step = gB text lim s sn 24 s s true [fB s 23, f0 s] 2 none none := rfl
theorem B26 (fr : List Sre.Frame) : (gB text lim s sn 26 (s + 1) handed true fr 2 none none).step = gB text lim s (sn.add 5) 29 (s + 1) (s + 1) false (fL s :: fr) 3 none none := rfl
theorem B_look (pc : Nat) (fr : List Sre.Frame) : (gB text lim s sn pc pos handed false (fL s :: fr) 3 (some false) none).step = gB text lim s sn 32 (s + 1) handed true fr 2 none none := rfl
/-- how wide the row's end is -/
def widB (text : Array Nat) (lim s : Nat) : Nat := if text.getD s 0 = 13 ∧ s + 1 < lim ∧ text.getD (s + 1) 0 = 10 then 2 else 1
theorem B_hit (h1 : s < lim) (h2 : text.getD s 0 = 10 ∨ text.getD s 0 = 13) (sn : Seen) : ∃ k sn', k ≤ 20 ∧ itM k (gB text lim s sn 10 s s true [f0 s] 1 none none) = gB text lim s sn' 10 s (s + widB text lim s) true [] 0 (some true) (some .matched) := by
  unfold widB
  rcases h2 with h2 | h2
  · refine ⟨1 + (1 + (1 + (1 + (1 + (1 + 3))))), ?w0, by omega, ?h0⟩
    case h0 =>
     rw [if_neg (by omega)]
     simp only [itM_add, it1]
     rw [B10, B_lit _ _ _ _ _ _ (pc := 12) (c := 13) (by simp), if_neg (by omega), B_alt2, B_lit _ _ _ _ _ _ (pc := 19) (c := 10) (by simp), if_pos ⟨h1, h2⟩, B21, B35, B_up]
  · by_cases h3 : s + 1 < lim ∧ text.getD (s + 1) 0 = 10
    · refine ⟨1 + (1 + (1 + (1 + (1 + 3)))), ?w5, by omega, ?h5⟩
      case h5 =>
       rw [if_pos ⟨h2, h3⟩]
       simp only [itM_add, it1]
       rw [B10, B_lit _ _ _ _ _ _ (pc := 12) (c := 13) (by simp), if_pos ⟨h1, h2⟩, B_lit _ _ _ _ _ _ (pc := 14) (c := 10) (by simp), if_pos h3, B16, B35, B_up]
    · refine ⟨1 + (1 + (1 + (1 + (1 + (1 + (1 + (1 + (1 + (1 + (1 + (1 + 3))))))))))), ?w1, by omega, ?h1⟩
      case h1 =>
       rw [if_neg (by omega)]
       simp only [itM_add, it1]
       rw [B10, B_lit _ _ _ _ _ _ (pc := 12) (c := 13) (by simp), if_pos ⟨h1, h2⟩, B_lit _ _ _ _ _ _ (pc := 14) (c := 10) (by simp), if_neg h3, B_alt2, B_lit _ _ _ _ _ _ (pc := 19) (c := 10) (by simp), if_neg (by omega), B_alt3,
        B_lit _ _ _ _ _ _ (pc := 24) (c := 13) (by simp), if_pos ⟨h1, h2⟩, B26, B_lit _ _ _ _ _ _ (pc := 29) (c := 10) (by simp), if_neg h3, B_look, B32, B35, B_up]
end
def hitB (text : Array Nat) (lim s : Nat) : Bool := decide (s < lim) && (text.getD s 0 == 10 || text.getD s 0 == 13)
theorem inB (c : Nat) (sn : Seen) : ∃ sn', Sre.inSet codeB c 36 5 true sn = .ok ((c == 10 || c == 13), sn') := by
  show ∃ sn', (if (c == 10) = true then (.ok (true, sn.add 16) : Except String (Bool × Seen)) else if (c == 13) = true then .ok (true, (sn.add 16).add 16) else .ok (false, ((sn.add 16).add 16).add 0)) = _
  cases (c == 10)
  · cases (c == 13)
    · exact ⟨_, rfl⟩
    · exact ⟨_, rfl⟩
  · exact ⟨_, rfl⟩
theorem admB {m : M} (hc : m.code = codeB) : ∀ (n s fuel : Nat) (sn : Seen), n < fuel → (∀ j, j < n → hitB m.text m.lim (s + j) = false ∧ s + j < m.lim) → 
    (hitB m.text m.lim (s + n) = true → ∃ sn', m.admitted fuel s sn = .ok (some (s + n), sn')) ∧ (s + n = m.lim → ∃ sn', m.admitted fuel s sn = .ok (none, sn')) := by
  intro n
  induction n with
  | zero =>
    intro s fuel sn hf hm
    obtain ⟨fuel, rfl⟩ : ∃ k, fuel = k + 1 := ⟨fuel - 1, by omega⟩
    constructor
    · intro h
      simp only [hitB, Bool.and_eq_true, decide_eq_true_eq, Nat.add_zero] at h
      obtain ⟨sn', e⟩ := inB (m.text.getD s 0) sn
      refine ⟨sn', ?_⟩
      unfold M.admitted
      rw [if_neg (by omega), hc, show codeB.size = 36 by rfl, e, h.2]
      rfl
    · intro h
      refine ⟨sn, ?_⟩
      unfold M.admitted
      rw [if_pos (by omega)]
  | succ n ih =>
    intro s fuel sn hf hm
    obtain ⟨fuel, rfl⟩ : ∃ k, fuel = k + 1 := ⟨fuel - 1, by omega⟩
    obtain ⟨h0, h1⟩ := hm 0 (by omega)
    obtain ⟨sn', e⟩ := inB (m.text.getD s 0) sn
    have hx : (m.text.getD s 0 == 10 || m.text.getD s 0 == 13) = false := by
      simp only [hitB, Nat.add_zero, show decide (s < m.lim) = true by simp; omega, Bool.true_and] at h0; exact h0
    have key : m.admitted (fuel + 1) s sn = m.admitted fuel (s + 1) sn' := by
      conv => lhs; unfold M.admitted
      rw [if_neg (by omega), hc, show codeB.size = 36 by rfl, e, hx]
    rw [key]
    obtain ⟨r1, r2⟩ := ih (s + 1) fuel sn' (by omega) (fun j hj => by have := hm (j + 1) (by omega); rwa [show s + (j + 1) = s + 1 + j by omega] at this)
    exact ⟨fun h => by rw [show s + (n + 1) = s + 1 + n by omega] at h ⊢; exact r1 h, fun h => r2 (by omega)⟩
theorem B_find {text : Array Nat} {lim n s : Nat} (hm : ∀ j, j < n → hitB text lim (s + j) = false) (h : hitB text lim (s + n) = true) :
    ∃ k sn, k ≤ 20 ∧ itM k (Sre.forSearch codeB text 0 s lim false) = gB text lim (s + n) sn 10 (s + n) (s + n + widB text lim (s + n)) true [] 0 (some true) (some .matched) := by
  have h' := h
  simp only [hitB, Bool.and_eq_true, decide_eq_true_eq, Bool.or_eq_true, beq_iff_eq] at h'
  obtain ⟨sn, e⟩ := (admB (m := { gB text lim s (({} : Seen).add 14) 10 s s true [] 0 none none with lastStart := lim }) rfl n s (lim + 1 - s) (({} : Seen).add 14) (by omega) (fun j hj => ⟨hm j hj, by show s + j < lim; omega⟩)).1 h
  obtain ⟨k, sn2, hk, e2⟩ := B_hit text lim (s + n) h'.1 h'.2 sn
  refine ⟨k, sn2, hk, ?_⟩
  rw [← e2]
  congr 1
  show (if (decide (s > lim) || decide (lim - s < 1)) = true then _ else M.attemptFrom (gB text lim s (({} : Seen).add 14) 10 s s true [] 0 none none) s true) = _
  rw [if_neg (by simp; omega)]
  show (match M.admitted (gB text lim s (({} : Seen).add 14) 10 s s true [] 0 none none) (lim + 1 - s) s (({} : Seen).add 14) with | .ok (some s, seen) => _ | .ok (none, seen) => _ | .error why => _) = _
  rw [show M.admitted (gB text lim s (({} : Seen).add 14) 10 s s true [] 0 none none) (lim + 1 - s) s (({} : Seen).add 14) = _ from e]
  rfl
theorem B_none {text : Array Nat} {lim s : Nat} (hs : s ≤ lim) (hm : ∀ j, s ≤ j → hitB text lim j = false) : (itM 1 (Sre.forSearch codeB text 0 s lim false)).outcome = some .failed := by
  rw [it1]
  show (M.step (if (decide (s > lim) || decide (lim - s < 1)) = true then _ else M.attemptFrom (gB text lim s (({} : Seen).add 14) 10 s s true [] 0 none none) s true)).outcome = _
  by_cases h1 : s = lim
  · rw [if_pos (by simp; omega)]; rfl
  · obtain ⟨sn, e⟩ := (admB (m := gB text lim s (({} : Seen).add 14) 10 s s true [] 0 none none) rfl (lim - s) s (lim + 1 - s) (({} : Seen).add 14) (by omega) (fun j hj => ⟨hm _ (by omega), by show s + j < lim; omega⟩)).2 (by show s + (lim - s) = lim; omega)
    rw [if_neg (by simp; omega)]
    show (M.step (match M.admitted (gB text lim s (({} : Seen).add 14) 10 s s true [] 0 none none) (lim + 1 - s) s (({} : Seen).add 14) with | .ok (some s, seen) => _ | .ok (none, seen) => _ | .error why => _)).outcome = _
    rw [show M.admitted (gB text lim s (({} : Seen).add 14) 10 s s true [] 0 none none) (lim + 1 - s) s (({} : Seen).add 14) = _ from e]
    rfl
end Mine
end

open PySem PySem.W PyProof.Rows
namespace Mine
open_top hd for PySem.Challenge.rw_rw0069_01
end Mine
open Mine

-- part Base
section
open PySem.Calls
namespace Mine
abbrev Prg : Program := PySem.Challenge.rw_rw0069_01.row.prog

/-- all that is not named stands as it stood -/
def Keep (pre : List (Addr × Obj)) (h h' : Heap) : Prop := ∀ b o, h.get? b = some o → b ∉ pre.map (·.1) → h'.get? b = some o
/-- what is new on the ledger was nowhere before -/
def Fresh (pre post : List (Addr × Obj)) (h : Heap) : Prop := ∀ p ∈ post, p.1 ∉ pre.map (·.1) → h.get? p.1 = none

theorem Keep.refl (pre : List (Addr × Obj)) (h : Heap) : Keep pre h h := fun _ _ e _ => e
theorem Keep.fr {pre : List (Addr × Obj)} {h g h' : Heap} {L : Addr} {m : Str → Option Value} (k : Keep pre h g) (F : Fr g L h' m) : Keep pre h h' := fun b o e hb => F.keep b o (k b o e hb)
theorem Keep.fresh {pre post : List (Addr × Obj)} {h g h' : Heap} {L : Addr} (k : Keep pre h g) (N : News g L h' post) : Fresh pre post h := fun p hp hb => by
  cases e : h.get? p.1 with
  | none => rfl
  | some o =>
    have := k _ _ e hb
    rw [(N p hp).2.2] at this
    cases this
theorem Fresh.same {pre post : List (Addr × Obj)} {h : Heap} (e : post.map (·.1) = pre.map (·.1)) : Fresh pre post h := fun p hp hn => absurd (e ▸ List.mem_map_of_mem hp) hn
theorem Keep.news {pre rest : List (Addr × Obj)} {h₀ h h' : Heap} {L : Addr} (k : Keep pre h h') (N : News h₀ L h rest) (hs : ∀ q ∈ rest, q.1 ∉ pre.map (·.1)) : News h₀ L h' rest :=
  fun q hq => ⟨k _ _ (N q hq).1 (hs q hq), (N q hq).2⟩
theorem newsSub {l l' : List (Addr × Obj)} {h₀ h : Heap} {L : Addr} (N : News h₀ L h l) (hs : ∀ q ∈ l', q ∈ l) : News h₀ L h l' := fun q hq => N q (hs q hq)
theorem newsApp {l l' : List (Addr × Obj)} {h₀ h : Heap} {L : Addr} (N : News h₀ L h l) (N' : News h₀ L h l') : News h₀ L h (l ++ l') := fun q hq => (List.mem_append.mp hq).elim (N q) (N' q)
theorem Fresh.ne {pre post : List (Addr × Obj)} {h₀ h : Heap} {L D b : Addr} {o o' : Obj} {rest : List (Addr × Obj)} (f : Fresh pre post h) (hD : (D, o) ∈ post) (hn : D ∉ pre.map (·.1)) (N : News h₀ L h rest) (hb : (b, o') ∈ rest) : b ≠ D := fun e => by
  have h1 := f _ hD hn
  have h2 := (N _ hb).1
  dsimp only at h1 h2
  rw [e, h1] at h2
  cases h2

/-- a contract: calling f upon the ledger pre ends, with a value and a ledger told by Post -/
def Call (w : World) (D U : Nat) (f : Value) (args : List Value) (pre : List (Addr × Obj)) (Post : Value → List (Addr × Obj) → Prop) : Prop :=
  ∀ (p : Program) (loose : List Str) (mean : ExcName → Option Value) (mg mb : Str → Option Value)
    (dp un : Nat) (gd : Option (List Code)) (cn : Str) (cs : Scope) (a : Addr) (ccd : Value) (cl : List (Str × Addr)) (outer : List Env) (A₀ : Around) (base h₀ : Heap) (L : Addr) (m : Str → Option Value) (s : Shared) (Q E : Value → Shared → Prop),
    Below A₀ base outer h₀ → Fr h₀ L s.heap m → (hd.heap_39 w.params).In h₀ → CodeHd h₀ 130 126 → News h₀ L s.heap pre → Top p loose mean mg mb h₀ → cs.kind = .function → dp + D < recursionLimit → un + U < cLine →
    (∀ v post h' tk', Post v post → Fr h₀ L h' m → News h₀ L h' post → Keep pre s.heap h' → Fresh pre post s.heap → Q v { s with heap := h', toks := tk' }) →
    codeAny (model Prg w) (ktrTop dp un gd cn cs L a ccd cl outer) (.call f ⟨args, []⟩) (fun r s' => match r with | .ok (.ret v) => Q v s' | .ok _ => False | .error e => E e s') s

theorem Call.mono {w : World} {D U : Nat} {f : Value} {args : List Value} {pre : List (Addr × Obj)} {Post Post' : Value → List (Addr × Obj) → Prop} (h : Call w D U f args pre Post) (hp : ∀ v post, Post v post → Post' v post) : Call w D U f args pre Post' := by
  unfold Call at h ⊢
  intro p loose mean mg mb dp un gd cn cs b ccd cl outer A₀ base h₀ L m s Q E B F X C N T hcs hd hu hret
  exact h p loose mean mg mb dp un gd cn cs b ccd cl outer A₀ base h₀ L m s Q E B F X C N T hcs hd hu fun v post h' tk' hP => hret v post h' tk' (hp _ _ hP)
theorem Call.wider {w : World} {D D' U U' : Nat} {f : Value} {args : List Value} {pre : List (Addr × Obj)} {Post : Value → List (Addr × Obj) → Prop} (h : Call w D U f args pre Post) (h1 : D ≤ D') (h2 : U ≤ U') : Call w D' U' f args pre Post := by
  unfold Call at h ⊢
  intro p loose mean mg mb dp un gd cn cs b ccd cl outer A₀ base h₀ L m s Q E B F X C N T hcs hd hu hret
  exact h p loose mean mg mb dp un gd cn cs b ccd cl outer A₀ base h₀ L m s Q E B F X C N T hcs (by omega) (by omega) hret

section
variable {prog : Program} {w : World} {A A₀ : Around} {s : Shared} {K : Frag} {L : Addr} {h₀ base : Heap} {m mg mb : Str → Option Value} {news : List (Addr × Obj)} {p : Program} {loose : List Str} {mean : ExcName → Option Value}

theorem code_defK {env : Env} {outer : List Env} {R : Result → Shared → Prop} {name qual : Str} {params : Arguments} {body : List Stmt} {scope : Scope} {dV kV doc pm cdv ct oc : Value} {an od : Option Addr} {osl : Array (Option Value)} {f : Addr} {args : Args} {binds : List (Str × Value)}
    (B : Below A₀ base outer h₀) (F : Fr h₀ L s.heap m) (X₀ : K.In h₀) (C : CodeHd h₀ 130 126) (N : News h₀ L s.heap news) (T : Top p loose mean mg mb h₀) (hA : A.frames = some (env :: outer)) (hf : env.frame = some L) (hke : env.scope.kind = .function)
    (ho : K.lookup f = some ⟨oc, od, .func (fnOf name qual params body scope dV kV doc pm an cdv ct), osl⟩) (hcd : codeIn K cdv qual = true) (hroom : A.depth < recursionLimit)
    (hbind : BindsTo s (fnOf name qual params body scope dV kV doc pm an cdv ct) args binds) (hloc : ∀ y ∈ binds, scope.names.lookup y.1 = some .local)
    (h : ∀ g L' h₁, Fr h₀ L g m → Fr g L' h₁ (fun y => binds.reverse.lookup y) → News g L' h₁ news → Below A base (env :: outer) g → K.In g → Top p loose mean mg mb g → CodeHd g 130 126 → Keep news s.heap g → (∀ p ∈ news, p.1 < L') →
      wpAny (model prog w) (A.deeper (envOf qual scope L' f cdv)) (execs body (envOf qual scope L' f cdv))
        (fun fl s' => LeaveK h₀ L m g R (match fl with | .ret v => v | _ => .none) s')
        (fun e s' => wpAny (model prog w) (A.deeper (envOf qual scope L' f cdv)) (leaving (envOf qual scope L' f cdv) e) (fun _ s'' => R (.error e) s'') (fun e' s'' => R (.error e') s'') s')
        { s with heap := h₁, toks := s.toks + binds.length })
    (hco : scope.isCoroutine = false) (hgen : scope.isGenerator = false) (hk : scope.kind = .function)
    (hcell : ∀ x ∈ scope.names, x.2 ≠ .cell) : codeAny (model prog w) A (.call (.ref f) args) R s := by
  obtain ⟨FG, BG, st, lv⟩ := groundX (R := R) B F N hA hf hke
  refine codeAny_call_def (fd := fnOf name qual params body scope dV kV doc pm an cdv ct) (body := body) (binds := binds) hroom ((X₀.keeps F.keep) _ _ ho) rfl (T.nolimit.keeps F.keep) (codeRec_of (X₀.keeps F.keep) hcd) rfl hbind hcell hloc (fun h₁ hns hk₁ => ?_) hco hgen hk
  exact wpAny_mono (h _ s.heap.objs.size h₁ FG ⟨hns, fun b o e => hk₁ b o (of_hideAll _ e), Nat.le_of_eq (hideAll_size _ _)⟩
    (fun p hp => ⟨hk₁ _ _ (N p hp).1, Nat.ne_of_lt (Heap.lt_size (N p hp).1), hideAll_none _ (List.mem_map_of_mem hp)⟩) BG (X₀.keeps st) (T.keeps st) (C.keeps st) (fun b o e hb => hideAll_get _ e hb) (fun p hp => Heap.lt_size (N p hp).1)) (fun fl s' hl => lv _ _ hl) fun _ _ y => y

theorem code_defCK {env : Env} {outer : List Env} {R : Result → Shared → Prop} {name qual : Str} {params : Arguments} {body : List Stmt} {scope : Scope} {dV kV doc pm cdv ct oc : Value} {an od : Option Addr} {osl : Array (Option Value)} {f : Addr} {args : Args} {binds : List (Str × Value)}
    (B : Below A₀ base outer h₀) (F : Fr h₀ L s.heap m) (X₀ : K.In h₀) (C : CodeHd h₀ 130 126) (N : News h₀ L s.heap news) (T : Top p loose mean mg mb h₀) (hA : A.frames = some (env :: outer)) (hf : env.frame = some L) (hke : env.scope.kind = .function)
    (ho : K.lookup f = some ⟨oc, od, .func (fnOf name qual params body scope dV kV doc pm an cdv ct), osl⟩) (hcd : codeIn K cdv qual = true) (hroom : A.depth < recursionLimit)
    (hbind : BindsTo s (fnOf name qual params body scope dV kV doc pm an cdv ct) args binds) (hkind : (binds.all fun y => scope.names.lookup y.1 == some .local || scope.names.lookup y.1 == some .cell) = true)
    (hnd : ((cellsFrom 0 scope.names []).map (·.1)).Nodup)
    (h : ∀ g L' h₁ tk cells, Fr h₀ L g m → Fr g L' h₁ (bindL (envOfC qual scope L' f cdv).kindOf binds fun _ => none) → News g L' h₁ (cells ++ news) →
      CellsAre (bindC (envOfC qual scope L' f cdv).kindOf binds fun _ => none) (cellsFrom (L' + 1) scope.names []) cells → Below A base (env :: outer) g → K.In g → Top p loose mean mg mb g → CodeHd g 130 126 → Keep news s.heap g → (∀ p ∈ news, p.1 < L') →
      wpAny (model prog w) (A.deeper (envOfC qual scope L' f cdv)) (execs body (envOfC qual scope L' f cdv))
        (fun fl s' => LeaveK h₀ L m g R (match fl with | .ret v => v | _ => .none) s')
        (fun e s' => wpAny (model prog w) (A.deeper (envOfC qual scope L' f cdv)) (leaving (envOfC qual scope L' f cdv) e) (fun _ s'' => R (.error e) s'') (fun e' s'' => R (.error e') s'') s')
        { s with heap := h₁, toks := tk })
    (hco : scope.isCoroutine = false) (hgen : scope.isGenerator = false) (hk : scope.kind = .function) : codeAny (model prog w) A (.call (.ref f) args) R s := by
  obtain ⟨FG, BG, st, lv⟩ := groundX (R := R) B F N hA hf hke
  refine codeAny_call_function hroom ((X₀.keeps F.keep) _ _ ho) rfl hco hgen rfl (codeRec_of (X₀.keeps F.keep) hcd) (hbind _ _ _ _ ?_)
  refine wpAny_newFunctionEnv_cells hk (kindsX hkind _) fun env' he s' x => ?_
  subst he
  refine ⟨(T.nolimit.keeps F.keep).keeps x.toInCall.keep, codeAny_func ?_⟩
  obtain ⟨h₁, tk, rfl, _⟩ := x.done
  have hk₁ := x.toInCall.keep
  obtain ⟨cells, NC, Y⟩ := Cl.news (h₀ := s.heap) (Nat.le_refl _) fun n c hm => ⟨x.cell n c (lookup_of_mem_nodup (cellsFrom_names scope.names 0 (s.heap.objs.size + 1) [] [] rfl ▸ hnd) hm), x.above n c hm⟩
  refine wpAny_mono (h _ s.heap.objs.size h₁ tk cells FG ⟨x.toInCall.ns, fun b o e => hk₁ b o (of_hideAll _ e), Nat.le_of_eq (hideAll_size _ _)⟩ (fun p hp => ?_) Y BG (X₀.keeps st) (T.keeps st) (C.keeps st) (fun b o e hb => hideAll_get _ e hb) (fun p hp => Heap.lt_size (N p hp).1)) (fun fl s' hl => lv _ _ hl) fun _ _ y => y
  rcases List.mem_append.mp hp with hp | hp
  · refine ⟨(NC p hp).1, (NC p hp).2.1, ?_⟩
    cases q : (hideAll s.heap (news.map (·.1))).get? p.1 with
    | none => rfl
    | some o => have := of_hideAll _ q; rw [(NC p hp).2.2] at this; cases this
  · exact ⟨hk₁ _ _ (N p hp).1, Nat.ne_of_lt (Heap.lt_size (N p hp).1), hideAll_none _ (List.mem_map_of_mem hp)⟩
end
end Mine
namespace Mine
theorem Call.use {w : World} {D U : Nat} {f : Value} {args : List Value} {pre : List (Addr × Obj)} {Post : Value → List (Addr × Obj) → Prop} (hC : Call w D U f args pre Post)
    {p : Program} {loose : List Str} {mean : ExcName → Option Value} {mg mb : Str → Option Value}
    {dp un : Nat} {gd : Option (List Code)} {cn : Str} {cs : Scope} {a : Addr} {ccd : Value} {cl : List (Str × Addr)} {outer : List Env} {A₀ : Around} {base h₀ : Heap} {L : Addr} {m : Str → Option Value} {s : Shared} {Q E : Value → Shared → Prop} {led rest : List (Addr × Obj)}
    (B : Below A₀ base outer h₀) (F : Fr h₀ L s.heap m) (X : (hd.heap_39 w.params).In h₀) (C : CodeHd h₀ 130 126) (N : News h₀ L s.heap led) (T : Top p loose mean mg mb h₀) (hs : ∀ q ∈ pre, q ∈ led) (hr : ∀ q ∈ rest, q ∈ led) (ho : ∀ q ∈ rest, q.1 ∉ pre.map (·.1))
    (hk : cs.kind = .function) (hd : dp + D < recursionLimit) (hu : un + U < cLine)
    (k : ∀ v post h' tk', Post v post → Fr h₀ L h' m → News h₀ L h' (post ++ rest) → Keep pre s.heap h' → Fresh pre post s.heap → Q v { s with heap := h', toks := tk' }) :
    wpAny (model Prg w) (ktrTop dp un gd cn cs L a ccd cl outer) (call f args) Q E s :=
  wpAny_call (hC _ _ _ _ _ _ _ _ _ _ _ _ _ _ _ _ _ _ _ _ _ _ B F X C (newsSub N hs) T hk hd hu fun v post h' tk' hp F' N' K' Z' => k v post h' tk' hp F' (newsApp N' (K'.news (newsSub N hr) ho)) K' Z')
theorem Call.code {w : World} {D U : Nat} {f : Value} {args : List Value} {pre : List (Addr × Obj)} {Post : Value → List (Addr × Obj) → Prop} (hC : Call w D U f args pre Post)
    {p : Program} {loose : List Str} {mean : ExcName → Option Value} {mg mb : Str → Option Value}
    {dp un : Nat} {gd : Option (List Code)} {cn : Str} {cs : Scope} {a : Addr} {ccd : Value} {cl : List (Str × Addr)} {outer : List Env} {A₀ : Around} {base h₀ : Heap} {L : Addr} {m : Str → Option Value} {s : Shared} {Q E : Value → Shared → Prop} {led rest : List (Addr × Obj)}
    (B : Below A₀ base outer h₀) (F : Fr h₀ L s.heap m) (X : (hd.heap_39 w.params).In h₀) (C : CodeHd h₀ 130 126) (N : News h₀ L s.heap led) (T : Top p loose mean mg mb h₀) (hs : ∀ q ∈ pre, q ∈ led) (hr : ∀ q ∈ rest, q ∈ led) (ho : ∀ q ∈ rest, q.1 ∉ pre.map (·.1))
    (hk : cs.kind = .function) (hd : dp + D < recursionLimit) (hu : un + U < cLine)
    (k : ∀ v post h' tk', Post v post → Fr h₀ L h' m → News h₀ L h' (post ++ rest) → Keep pre s.heap h' → Fresh pre post s.heap → Q v { s with heap := h', toks := tk' }) :
    codeAny (model Prg w) (ktrTop dp un gd cn cs L a ccd cl outer) (.call f ⟨args, []⟩) (fun r s' => match r with | .ok (.ret v) => Q v s' | .ok _ => False | .error e => E e s') s :=
  hC _ _ _ _ _ _ _ _ _ _ _ _ _ _ _ _ _ _ _ _ _ _ B F X C (newsSub N hs) T hk hd hu fun v post h' tk' hp F' N' K' Z' => k v post h' tk' hp F' (newsApp N' (K'.news (newsSub N hr) ho)) K' Z'
end Mine
namespace Mine
/-- all these addresses lie below d -/
def AL (d : Nat) (xs : List Nat) : Prop := ∀ x ∈ xs, @LT.lt Nat _ x d
theorem AL.of {d : Addr} {l : List (Addr × Obj)} (h : ∀ p ∈ l, p.1 < d) : AL d (l.map (·.1)) := fun x hx => by
  obtain ⟨p, hp, rfl⟩ := List.mem_map.mp hx
  exact h p hp
theorem AL.lt {d x i : Nat} {xs : List Nat} (h : AL d xs) (e : xs[i]? = some x) : x < d := h x (List.mem_of_getElem? e)
theorem AL.neR {d x i : Nat} {xs : List Nat} (h : AL d xs) (e : xs[i]? = some x) : x ≠ d := Nat.ne_of_lt (h.lt e)
theorem AL.neL {d x i : Nat} {xs : List Nat} (h : AL d xs) (e : xs[i]? = some x) : d ≠ x := (h.neR e).symm
theorem AL.nil {d : Nat} : AL d [] := fun _ h => nomatch h
theorem AL.cons {d x : Nat} {xs : List Nat} (h : x < d) (t : AL d xs) : AL d (x :: xs) := List.forall_mem_cons.mpr ⟨h, t⟩
theorem ixT {xs : List Nat} {x : Nat} (i : Nat) (h : xs[i]? = some x) : xs[i]? = some x := h
theorem offC {x : Addr × Obj} {rest : List (Addr × Obj)} {l : List Addr} (h : x.1 ∉ l) (t : ∀ q ∈ rest, q.1 ∉ l) : ∀ q ∈ x :: rest, q.1 ∉ l := List.forall_mem_cons.mpr ⟨h, t⟩
theorem offN {x : Addr} : x ∉ ([] : List (Addr × Obj)).map (·.1) := fun h => nomatch h
theorem offS {x : Addr} {p : Addr × Obj} {l : List (Addr × Obj)} (h : @Ne Nat x p.1) (t : x ∉ l.map (·.1)) : x ∉ (p :: l).map (·.1) := fun hm => (List.mem_cons.mp hm).elim h t
theorem subC {α : Type} {a : α} {t l : List α} (h : a ∈ l) (k : ∀ q ∈ t, q ∈ l) : ∀ q ∈ a :: t, q ∈ l := List.forall_mem_cons.mpr ⟨h, k⟩
theorem subN {α : Type} {l : List α} : ∀ q ∈ ([] : List α), q ∈ l := fun _ h => nomatch h
theorem subK {α : Type} {a : α} {t l : List α} (k : ∀ q ∈ t, q ∈ l) : ∀ q ∈ a :: t, q ∈ a :: l := subC (.head _) fun q hq => .tail _ (k q hq)
theorem subS {α : Type} {a : α} {t l : List α} (k : ∀ q ∈ t, q ∈ l) : ∀ q ∈ t, q ∈ a :: l := fun q hq => .tail _ (k q hq)
theorem room2 {dp D c e : Nat} (h : dp + D < recursionLimit) (k : Nat.ble (c + e) D = true) : dp + c + e < recursionLimit := by
  have := Nat.le_of_ble_eq_true k; omega
theorem room0 {dp D : Nat} (h : dp + D < recursionLimit) : dp < recursionLimit := by omega
theorem unit2 {dp D c e : Nat} (h : dp + D < cLine) (k : Nat.ble (c + e) D = true) : dp + c + e < cLine := by
  have := Nat.le_of_ble_eq_true k; omega
/-- the frame tells these names -/
inductive FrAt (g : Heap) (L : Addr) (h : Heap) (ps : List (Str × Value)) : Prop
  | mk (m : Str → Option Value) (F : Fr g L h m) (e : ps.map (fun p => m p.1) = ps.map fun p => some p.2)
theorem FrAt.out {g h : Heap} {L : Addr} {ps : List (Str × Value)} (x : FrAt g L h ps) : ∃ m, Fr g L h (kstB m ps) := by
  obtain ⟨m, F, e⟩ := x
  refine ⟨m, ?_⟩
  have hp : ∀ p ∈ ps, m p.1 = some p.2 := fun p hp => List.map_inj_left.mp e p hp
  have e : kstB m ps = m := by funext z; exact kstB_eq hp fun _ => rfl
  rw [e]; exact F
end Mine
namespace Mine
theorem AL.all {d : Addr} {l : List (Addr × Obj)} (h : AL d (l.map (·.1))) : ∀ p ∈ l, @Ne Nat p.1 d := fun p hp => Nat.ne_of_lt (h _ (List.mem_map_of_mem hp))
theorem neC {d : Addr} {x : Addr × Obj} {r : List (Addr × Obj)} (h : @Ne Nat x.1 d) (t : ∀ q ∈ r, q.1 ≠ d) : ∀ q ∈ x :: r, q.1 ≠ d := List.forall_mem_cons.mpr ⟨h, t⟩
theorem subNil {d : Addr} : ∀ q ∈ ([] : List (Addr × Obj)), q.1 ≠ d := fun _ h => nomatch h
theorem offNil {l : List Addr} : ∀ q ∈ ([] : List (Addr × Obj)), q.1 ∉ l := fun _ h => nomatch h
theorem subI {α : Type} {l : List α} : ∀ q ∈ l, q ∈ l := fun _ h => h
/-- the functions at which the walk halts: their contracts are used by hand -/
def halts (n : Nat) : Bool := n == 49 || n == 58 || n == 93 || n == 100 || n == 40 || n == 65 || n == 124 || n == 131 || n == 138 || n == 145 || n == 150 || n == 157 || n == 162 || n == 167
theorem stopAt {w : World} {A : Around} {n : Nat} {args : List Value} {Q E : Value → Shared → Prop} {s : Shared} (_ : halts n = true) (h : wpAny (model Prg w) A (call (Value.ref n) args) Q E s) : wpAny (model Prg w) A (call (Value.ref n) args) Q E s := h
end Mine
namespace Mine
theorem FrAt.use {g h : Heap} {L : Addr} {ps : List (Str × Value)} (x : FrAt g L h ps) {P : Prop} (k : ∀ m, Fr g L h (kstB m ps) → P) : P := x.out.elim k
end Mine
namespace Mine
theorem FrAt.drop {g h : Heap} {L : Addr} {p : Str × Value} {ps : List (Str × Value)} (x : FrAt g L h (p :: ps)) : FrAt g L h ps := by
  obtain ⟨m, F, e⟩ := x
  exact ⟨m, F, (List.cons.inj e).2⟩
end Mine
namespace Mine
theorem AL.off {x : Nat} {l : List (Addr × Obj)} (h : AL x (l.map (·.1))) : x ∉ l.map (·.1) := fun hm => Nat.lt_irrefl _ (h x hm)
theorem icast1 (a : Int) (k : Nat) : a + 1 + (k : Int) = a + ((k + 1 : Nat) : Int) := by omega
theorem icast2 (a : Int) (d : Nat) : a + 1 + (d : Int) = a + ((0 : Nat) : Int) + d + 1 := by omega
theorem icast3 {a b : Int} {d : Nat} (h : b + ((0 : Nat) : Int) = a + d + 1) : a + d + 2 = b + 1 := by omega
theorem nsub1 {d k : Nat} (h : k + 1 ≤ d) : d + 1 - (k + 1) + 1 = d + 1 - k := by omega
theorem nsub2 (d : Nat) : 1 = d + 1 - d := by omega
theorem nsub3 {d k n : Nat} (h : d < n) : d + 1 - k ≤ n := by omega
end Mine
namespace Mine
theorem AL.ltT {d y x i : Nat} {xs : List Nat} (h : AL d xs) (l : d < y) (e : xs[i]? = some x) : x < y := Nat.lt_trans (h.lt e) l
theorem AL.neTR {d y x i : Nat} {xs : List Nat} (h : AL d xs) (l : d < y) (e : xs[i]? = some x) : x ≠ y := Nat.ne_of_lt (h.ltT l e)
theorem AL.neTL {d y x i : Nat} {xs : List Nat} (h : AL d xs) (l : d < y) (e : xs[i]? = some x) : y ≠ x := Nat.ne_of_gt (h.ltT l e)
theorem AL.ltS {d x i : Nat} {xs : List Nat} (h : AL d xs) (k : Nat) (e : xs[i]? = some x) : x < d + k := Nat.lt_of_lt_of_le (h.lt e) (Nat.le_add_right _ _)
theorem AL.neSR {d x i : Nat} {xs : List Nat} (h : AL d xs) (e : xs[i]? = some x) : x ≠ d + 1 := Nat.ne_of_lt (h.ltS 1 e)
theorem AL.neSL {d x i : Nat} {xs : List Nat} (h : AL d xs) (e : xs[i]? = some x) : d + 1 ≠ x := Nat.ne_of_gt (h.ltS 1 e)
theorem AL.neS2R {d x i : Nat} {xs : List Nat} (h : AL d xs) (e : xs[i]? = some x) : x ≠ d + 1 + 1 := Nat.ne_of_lt (h.ltS 2 e)
theorem AL.neS2L {d x i : Nat} {xs : List Nat} (h : AL d xs) (e : xs[i]? = some x) : d + 1 + 1 ≠ x := Nat.ne_of_gt (h.ltS 2 e)
theorem AL.neS3R {d x i : Nat} {xs : List Nat} (h : AL d xs) (e : xs[i]? = some x) : x ≠ d + 1 + 1 + 1 := Nat.ne_of_lt (h.ltS 3 e)
theorem AL.neS3L {d x i : Nat} {xs : List Nat} (h : AL d xs) (e : xs[i]? = some x) : d + 1 + 1 + 1 ≠ x := Nat.ne_of_gt (h.ltS 3 e)
theorem neU (a : Nat) : a ≠ a + 1 := Nat.ne_of_lt (Nat.lt_succ_self _)
theorem neD (a : Nat) : a + 1 ≠ a := Nat.ne_of_gt (Nat.lt_succ_self _)
theorem neU2 (a : Nat) : a ≠ a + 1 + 1 := by omega
theorem neD2 (a : Nat) : a + 1 + 1 ≠ a := by omega
theorem AL.hd {d x : Nat} {xs : List Nat} (h : AL d (x :: xs)) : x < d := h x (.head _)
theorem AL.tl {d x : Nat} {xs : List Nat} (h : AL d (x :: xs)) : AL d xs := fun y hy => h y (.tail _ hy)
end Mine
namespace Mine
/-- a text comes back, spelt so -/
inductive StrP (cs : List Nat) (led : List (Addr × Obj)) (r : Value) (post : List (Addr × Obj)) : Prop
  | mk (y : Str) (t' : Tok) (er : r = .str y t') (hy : y.cps.toList = cs) (ep : post = led)
end Mine
namespace Mine
theorem nsubS {n i : Nat} (h : i < n) : n - (i + 1) < n - i := by omega
theorem isubS (n : Int) (i : Nat) : n - ((i : Int) + 1) = n - (i : Int) - 1 := by omega
theorem ltOfSub {n i : Nat} (h : 0 < (n : Int) - (i : Int)) : i < n := by omega
theorem eqOfSub {n i : Nat} (h : (n : Int) - (i : Int) ≤ 0) (h2 : i ≤ n) : i = n := by omega
end Mine
namespace Mine
theorem AL.sub {d : Nat} {xs ys : List Nat} (h : AL d xs) (k : ∀ y ∈ ys, y ∈ xs) : AL d ys := fun y hy => h y (k y hy)
theorem ndNe {xs : List Nat} (o : xs.Nodup) {i j x y : Nat} (hi : xs[i]? = some x) (hj : xs[j]? = some y) (n : (i == j) = false) : x ≠ y := fun e => by
  subst e
  obtain ⟨hi', e1⟩ := List.getElem?_eq_some_iff.mp hi
  obtain ⟨hj', e2⟩ := List.getElem?_eq_some_iff.mp hj
  have := (List.nodup_iff_pairwise_ne.mp o)
  simp only [beq_eq_false_iff_ne] at n
  rcases Nat.lt_or_gt_of_ne n with h | h
  · exact List.pairwise_iff_getElem.mp this i j hi' hj' h (e1.trans e2.symm)
  · exact List.pairwise_iff_getElem.mp this j i hj' hi' h (e2.trans e1.symm)
end Mine
namespace Mine
theorem AL.neT {d y x i : Nat} {xs : List Nat} (l : d < y) (h : AL d xs) (e : xs[i]? = some x) : x ≠ y := h.neTR l e
theorem AL.ltU {d y x i : Nat} {xs : List Nat} (l : d < y) (h : AL d xs) (e : xs[i]? = some x) : x < y := h.ltT l e
end Mine
end

-- part Rules
section
open PySem.Calls
namespace Mine
section
variable {prog : Program} {w : World} {A : Around} {E : Value → Shared → Prop} {s : Shared} {h₀ h : Heap} {L D : Addr} {m : Str → Option Value} {news news' : List (Addr × Obj)} {its : Array Value} {n : Nat}

theorem truthyL {Q : Bool → Shared → Prop} (N : News h₀ L s.heap news) (hm : (D, W.listOf its n) ∈ news) (hz : its.size < 2 ^ 62)
    (h : Q (!its.isEmpty) { s with toks := s.toks + 1 + 1 }) : wpAny (model prog w) A (truthy (.ref D)) Q E s :=
  wpAny_truthy_list ⟨_, N.get hm, rfl, n, rfl⟩ (by omega) h

theorem truthyL1 {v : Value} {vs : List Value} {Q : Bool → Shared → Prop} (N : News h₀ L s.heap news) (hm : (D, W.listOf (v :: vs).toArray n) ∈ news) (hz : vs.length < 2 ^ 61)
    (h : Q true { s with toks := s.toks + 1 + 1 }) : wpAny (model prog w) A (truthy (.ref D)) Q E s :=
  truthyL N hm (by simp; omega) (by simpa using h)
theorem truthyL0 {Q : Bool → Shared → Prop} (N : News h₀ L s.heap news) (hm : (D, W.listOf ([] : List Value).toArray n) ∈ news)
    (h : Q false { s with toks := s.toks + 1 + 1 }) : wpAny (model prog w) A (truthy (.ref D)) Q E s :=
  truthyL N hm (by simp) (by simpa using h)

theorem pop0L {v : Value} {vs : List Value} {u : Tok} {Q : Value → Shared → Prop} (F : Fr h₀ L s.heap m) (N : News h₀ L s.heap news)
    (U : Upd D (W.listOf (v :: vs).toArray n) (W.listOf vs.toArray (n + 1)) news news') (hz : vs.length + 1 ≤ sizeLine)
    (h : ∀ h', Fr h₀ L h' m → News h₀ L h' news' → Q v { s with heap := h' }) : wpAny (model prog w) A (call (.builtin "list.pop") [.ref D, .int 0 u]) Q E s :=
  kl_popAt (k := 0) (p := []) (q := vs) F N rfl (by simp [seqIndex?]) rfl U (by simpa using hz) h

theorem lenL {Q : Value → Shared → Prop} (N : News h₀ L s.heap news) (hm : (D, W.listOf its n) ∈ news) (hz : its.size < 2 ^ 62)
    (h : Q (.int its.size (s.toks + 1)) { s with toks := s.toks + 1 + 1 }) : wpAny (model prog w) A (call (.builtin "len") [.ref D]) Q E s :=
  len_list ⟨_, N.get hm, rfl, n, rfl⟩ (by omega) h

theorem fitsIdx {k : Nat} (h : k < 2 ^ 60) : Builtin.List.listFitsIndex (k : Int) = true := by
  unfold Builtin.List.listFitsIndex
  simp only [Bool.and_eq_true, decide_eq_true_eq]
  omega
theorem insertL {vs : List Value} {k : Nat} {u : Tok} {y : Value} {Q : Value → Shared → Prop} (F : Fr h₀ L s.heap m) (N : News h₀ L s.heap news) (hk : k ≤ vs.length)
    (U : Upd D (W.listOf vs.toArray n) (W.listOf (vs.take k ++ y :: vs.drop k).toArray (n + 1)) news news') (hz : vs.length < 2 ^ 20)
    (h : ∀ h', Fr h₀ L h' m → News h₀ L h' news' → Q .none { s with heap := h' }) : wpAny (model prog w) A (call (.builtin "list.insert") [.ref D, .int k u, y]) Q E s := by
  have hz' : vs.length ≤ sizeLine := by rw [sizeLine_eq]; omega
  refine kl_insert (l := vs.take k ++ y :: vs.drop k) F N (fitsIdx (by omega)) ?_ U (by simpa using hz') h
  unfold kl_ins
  have e : (if (k : Int) < 0 then ((k : Int) + (vs.toArray.toList.length : Int)).toNat else min (k : Int).toNat vs.toArray.toList.length) = k := by
    rw [if_neg (by omega)]
    simp; omega
  rw [e]
theorem popL {p q : List Value} {v : Value} {u : Tok} {k : Nat} {Q : Value → Shared → Prop} (F : Fr h₀ L s.heap m) (N : News h₀ L s.heap news) (hk : p.length = k)
    (U : Upd D (W.listOf (p ++ v :: q).toArray n) (W.listOf (p ++ q).toArray (n + 1)) news news') (hz : (p ++ v :: q).length < 2 ^ 20)
    (h : ∀ h', Fr h₀ L h' m → News h₀ L h' news' → Q v { s with heap := h' }) : wpAny (model prog w) A (call (.builtin "list.pop") [.ref D, .int (k : Nat) u]) Q E s := by
  have hz' : (p ++ v :: q).length ≤ sizeLine := by rw [sizeLine_eq]; omega
  have hc : ∀ (p : List Value), kl_cut (p ++ v :: q) p.length = some (p, v, q) := by
    intro p
    induction p with
    | nil => rfl
    | cons x p ih => simp [kl_cut, ih]
  refine kl_popAt (k := k) (p := p) (q := q) F N (fitsIdx (by simp at hz; omega)) ?_ ?_ U (by simpa using hz') h
  · unfold seqIndex?
    have : k < (p ++ v :: q).toArray.size := by simp; omega
    simp only [show ¬ ((k : Int) < 0) by omega, if_false]
    rw [if_pos (by simp only [Bool.and_eq_true, decide_eq_true_eq]; omega)]
    simp
  · rw [← hk]; exact hc p
end
end Mine
end

-- part Iter
section
open PySem.Calls
namespace Mine
open PySem.Builtin in
theorem slot_ci_next : Slot "callable_iterator" "__next__" "callable_iterator.__next__" :=
  .of (owner := "callable_iterator") (n := "__next__") (by rw [typeLookup_type, builtinLookup_eq_fast]; kernel_rfl) (by decide +kernel) (by decide +kernel) (by decide +kernel)
    (by first | exact .inl (by decide +kernel) | exact .inr (by decide +kernel)) (by rw [isSubtype_type]; kernel_rfl)
theorem slot_ci_iter : Slot "callable_iterator" "__iter__" "callable_iterator.__iter__" :=
  .of (owner := "callable_iterator") (n := "__iter__") (by rw [typeLookup_type, builtinLookup_eq_fast]; kernel_rfl) (by decide +kernel) (by decide +kernel) (by decide +kernel)
    (by first | exact .inl (by decide +kernel) | exact .inr (by decide +kernel)) (by rw [isSubtype_type]; kernel_rfl)
theorem entry_ci_next : entryFor table "callable_iterator.__next__" = some Builtin.«callable_iterator.__next__» := entryFor_of_fast (by kernel_rfl)
theorem entry_ci_iter : entryFor table "callable_iterator.__iter__" = some Builtin.«dict_keyiterator.__iter__» :=
  entryFor_alias (id' := "dict_keyiterator.__iter__") (by kernel_rfl) rfl (by decide +kernel) (by kernel_rfl)
theorem args_ci_next (a : Value) : argsOk "callable_iterator.__next__" ⟨[a], []⟩ := by unfold argsOk; kernel_rfl
theorem args_ci_iter (a : Value) : argsOk "callable_iterator.__iter__" ⟨[a], []⟩ := by unfold argsOk; kernel_rfl
theorem kind_iter : builtinKind "iter" = none := by decide +kernel
theorem plain_iter : plainId "iter" = true := by decide +kernel
theorem entry_iter : entryFor table "iter" = some Builtin.«iter» := entryFor_of_fast (by kernel_rfl)
theorem args_iter (a b : Value) : argsOk "iter" ⟨[a, b], []⟩ := by unfold argsOk; kernel_rfl
theorem look_method_call : ∃ v, typeLookup (.type "method") "__call__" = pure (some v) := ⟨.builtin "method.__call__", by rw [typeLookup_type, builtinLookup_eq_fast]; kernel_rfl⟩

abbrev ciObj (f : Value) (x : Str) (t : Tok) : Obj := { cls := .type "callable_iterator", data := .fields #[f, .str x t, .bool false] }

section
variable {prog : Program} {w : World} {A : Around} {E : Value → Shared → Prop} {s : Shared} {h₀ h : Heap} {L D : Addr} {m : Str → Option Value} {news news' : List (Addr × Obj)}

theorem wpAny_callBorrowed {M : Model} {f : Value} {pos : List Value} {Q : Value → Shared → Prop} (h : wpAny M A (call f pos) Q E s) : wpAny M A (callBorrowed f pos) Q E s := fun Γ p hΓ => by
  have x := h Γ p hΓ
  unfold call at x
  rw [Sem.wp_runValue] at x
  unfold callBorrowed
  rw [Sem.wp_call]
  refine wpCode_mono (fun r s' hr => ?_) x
  cases r with
  | error e => exact hr
  | ok f => cases f <;> exact hr

/-- iter(f, x): a new iterator -/
theorem iter2 {MO : Addr} {f self : Value} {x : Str} {t : Tok} {Q : Value → Shared → Prop} (F : Fr h₀ L s.heap m) (N : News h₀ L s.heap news) (hm : (MO, methodObj f self) ∈ news)
    (h : ∀ IT h', Fr h₀ L h' m → News h₀ L h' ((IT, ciObj (.ref MO) x t) :: news) → (∀ p ∈ news, p.1 < IT) → Q (.ref IT) { s with heap := h' }) :
    wpAny (model prog w) A (call (.builtin "iter") [.ref MO, .str x t]) Q E s := by
  refine call_function_entry kind_iter plain_iter entry_iter (args_iter _ _) ?_
  obtain ⟨v, hv⟩ := look_method_call
  show wpAny _ _ (do
    if (← specialOf (.ref MO) "__call__").isNone then rule "iter.not-callable"; raiseError "TypeError" "iter(v, w): v must be callable"
    rule "iter.sentinel"; ret (← newFields "callable_iterator" [.ref MO, .str x t, .bool false])) _ _ s
  refine wpAny_bind (wpAny_specialOf (T := "method") ⟨_, N.get hm, rfl⟩ hv ?_)
  simp only [Option.isNone_some, Bool.false_eq_true, if_false]
  refine wpAny_bind (wpAny_rule (wpAny_bind ?_))
  refine wpAny_newObj_type (wpAny_pure ⟨_, rfl, ?_⟩) (by size_fits)
  exact h _ _ (F.push _) (News.push F N _) (fun p hp => Heap.lt_size (N p hp).1)

theorem ci_pyIter {IT : Addr} {f : Value} {x : Str} {t : Tok} {Q : Value → Shared → Prop} (N : News h₀ L s.heap news) (hm : (IT, ciObj f x t) ∈ news) (h : Q (.ref IT) s) :
    wpAny (model prog w) A (pyIter (.ref IT)) Q E s := by
  have hT : s.TypeIs (.ref IT) "callable_iterator" := ⟨_, N.get hm, rfl⟩
  refine wpAny_pyIter_slot hT slot_ci_iter (wpAny_call_entry slot_ci_iter hT entry_ci_iter ?_ (args_ci_iter _))
  exact wpAny_pure ⟨_, rfl, "callable_iterator", _, hT, slot_ci_next.lookup, h⟩

/-- what stands behind the call that a callable iterator makes -/
def CiBack (IT : Addr) (x : Str) (Q : Option Value → Shared → Prop) (v : Value) (s' : Shared) : Prop :=
  ∃ y u f t, v = .str y u ∧ s'.heap.get? IT = some (ciObj f x t) ∧ (∃ MO g self oc od fd sl, f = .ref MO ∧ s'.heap.get? MO = some (methodObj (.ref g) self) ∧ s'.heap.get? g = some ⟨oc, od, .func fd, sl⟩ ∧ MO ≠ IT) ∧
    (y ≠ x → Q (some (.str y u)) s') ∧ (y = x → ∀ h', Heap.ExtBut IT s'.heap h' → Q none { s' with heap := h' })

theorem borrows {MO g : Addr} {self : Value} {oc : Value} {od : Option Addr} {fd : FuncData} {sl : Array (Option Value)} {Q : Bool → Shared → Prop} (h1 : s.heap.get? MO = some (methodObj (.ref g) self)) (h2 : s.heap.get? g = some ⟨oc, od, .func fd, sl⟩) (h : Q true s) :
    wpAny (model prog w) A (borrowsExactly (.ref MO)) Q E s := by
  unfold borrowsExactly
  refine wpAny_bind (wpAny_load h1 ?_)
  show wpAny _ _ (if ((Value.type "method" == Value.type "method") = true) then _ else _) _ _ s
  rw [if_pos (by decide)]
  exact wpAny_bind (wpAny_load h2 (wpAny_pure h))

theorem letsGo {who : String} {busy : Code → Bool} {MO g : Addr} {self : Value} {oc : Value} {od : Option Addr} {fd : FuncData} {sl : Array (Option Value)} {Q : Unit → Shared → Prop} (h1 : s.heap.get? MO = some (methodObj (.ref g) self)) (h2 : s.heap.get? g = some ⟨oc, od, .func fd, sl⟩) (h : Q () s) :
    wpAny (model prog w) A (slotLetsGo who (.ref MO) busy) Q E s := by
  unfold slotLetsGo
  refine wpAny_bind (borrows h1 h2 ?_)
  rw [if_pos rfl]
  exact wpAny_pure h

theorem ci_next {IT MO g : Addr} {self oc : Value} {od : Option Addr} {fd : FuncData} {sl : Array (Option Value)} {x : Str} {t : Tok} {Q : Option Value → Shared → Prop} (hh : A.handled = none)
    (h1 : s.heap.get? IT = some (ciObj (.ref MO) x t)) (h2 : s.heap.get? MO = some (methodObj (.ref g) self)) (h3 : s.heap.get? g = some ⟨oc, od, .func fd, sl⟩)
    (h : codeAny (model prog w) A.in1 (.call (.ref g) ⟨[self], []⟩) (fun r s' => match r with | .ok (.ret v) => CiBack IT x Q v s' | .ok _ => False | .error e => (fun _ _ => False) e s') s) : wpAny (model prog w) A (pyNext (.ref IT)) Q E s := by
  have hT : s.TypeIs (.ref IT) "callable_iterator" := ⟨_, h1, rfl⟩
  unfold pyNext
  refine wpAny_bind (wpAny_attempt (wpAny_callSpecial?_slot (name := Str.ofString "__next__") hT slot_ci_next
    (wpAny_call_entry slot_ci_next hT entry_ci_next ?_ (args_ci_next _))))
  unfold Builtin.«callable_iterator.__next__»
  refine wpAny_bind (m := slotArgs _ _ _) (wpAny_pure ?_)
  refine wpAny_bind (wpAny_field h1 rfl (x := .bool false) rfl ?_)
  show wpAny _ _ (if ((Value.bool false == Value.bool true) = true) then _ else _) _ _ s
  rw [if_neg (by decide)]
  refine wpAny_bind (wpAny_field h1 rfl (x := .ref MO) rfl ?_)
  refine wpAny_bind (wpAny_attempt ?_)
  unfold callOutOfASlot
  refine wpAny_bind (borrows h2 h3 ?_)
  rw [if_pos rfl]
  refine wpAny_callBorrowed ?_
  refine wpAny_call (method_call h2 (codeAny_mono h fun r s' hr => ?_))
  cases r with
  | error e => exact hr.elim
  | ok fl =>
    cases fl with
    | next => exact hr
    | brk => exact hr
    | cont => exact hr
    | ret v =>
      obtain ⟨y, u, f, t', rfl, g1, ⟨MO', g', self', oc', od', fd', sl', rfl, g2, g3, hne⟩, k1, k2⟩ := hr
      dsimp only
      refine wpAny_bind (wpAny_field g1 rfl (x := .bool false) rfl ?_)
      show wpAny _ _ (if ((Value.bool false == Value.bool true) = true) then _ else _) _ _ _
      rw [if_neg (by decide)]
      refine wpAny_bind (wpAny_field g1 rfl (x := .str x t') rfl ?_)
      refine wpAny_bind (wpAny_holding (eqBool_str ?_))
      by_cases hy : y = x
      · rw [if_neg (by simp [hy])]
        refine wpAny_bind (wpAny_rule (wpAny_bind ?_))
        show wpAny _ _ (field (.ref IT) 0 >>= _) _ _ _
        refine wpAny_bind (wpAny_field g1 rfl (x := .ref MO') rfl ?_)
        refine wpAny_bind (letsGo g2 g3 ?_)
        refine wpAny_bind (wpAny_setField_rec g1 (by simp) fun h1' e1 s1 => ?_)
        refine wpAny_bind (wpAny_setField_rec e1 (by simp) fun h2' e2 s2 => ?_)
        refine wpAny_setField_rec e2 (by simp) fun h3' e3 s3 => ?_
        have hx : Heap.ExtBut IT s'.heap h3' := fun b o hb e => (s3.2 b hb).trans ((s2.2 b hb).trans ((s1.2 b hb).trans e))
        show wpAny _ _ (newExc (.type "StopIteration") [] >>= _) _ _ _
        refine wpAny_bind ?_
        simp only [newExc, newTuple]
        refine wpAny_bind (wpAny_newObj_type ?_ (by size_fits))
        refine wpAny_bind (m := firstArgMember _ _) (wpAny_of_eq (a := Value.none) (by first | rfl | (simp only [firstArgMember]; rfl)) ?_)
        refine wpAny_newObj_type ?_ (by size_fits)
        simp only [raiseNew]
        refine wpAny_bind (wpAny_handled ?_)
        rw [show A.in1.handled = none from hh]
        refine wpAny_bind (wpAny_pure (wpAny_throw ?_))
        refine wpAny_bind (wpAny_isInstance (T := "StopIteration") (b := true) ⟨_, Heap.get?_push_size _ rfl, rfl⟩ isSubtype_stop ?_)
        exact wpAny_pure (k2 hy _ ((hx.push _).push _))
      · rw [if_pos (by simp [Ne.symm hy])]
        exact wpAny_pure ⟨_, rfl, wpAny_pure (k1 hy)⟩

/-- a for over a callable iterator, by an invariant over the whole state -/
theorem for_inv {env : Env} {v : Str} {px pos : Pos} {iter : Expr} {body : List Stmt} {Q : Flow → Shared → Prop} (I : Addr → Nat → Shared → Prop)
    (h : wpAny (model prog w) A (eval iter env) (fun xv s₁ => wpAny (model prog w) A (pyIter xv) (fun it s₂ => ∃ J n, it = .ref J ∧ I J n s₂) E s₁) E s)
    (turn : ∀ J n s, I J n s → wpAny (model prog w) A (pyNext (.ref J)) (fun r s₁ => match r with
      | none => Q .next s₁
      | some y => wpAny (model prog w) A (storeName env v y) (fun _ s₂ => wpAny (model prog w) A (execs body env) (fun f s₃ => match f with
          | .next => ∃ k, k < n ∧ I J k s₃
          | .cont => ∃ k, k < n ∧ I J k s₃
          | .brk => Q .next s₃
          | .ret v => Q (.ret v) s₃) E s₂) E s₁) E s)
    (hs : ∀ x, foldedSetIterable iter env x = pure x := by intro _; rfl) (hE : PassesOwn (model prog w) A env E := by passes_own) :
    wpAny (model prog w) A (exec (.For (.Name v px) iter body [] pos) env) Q E s := by
  refine wpAny_For (wpAny_mono h (fun xv s₁ h₁ => wpAny_mono h₁ (fun it s₂ h₂ => ?_) fun _ _ z => z) fun _ _ z => z) hs
  obtain ⟨J, n, rfl, h₂⟩ := h₂
  refine codeAny_forLoop (R := fun r s' => match r with | .ok f => Q f s' | .error e => cameBackBy (model prog w) A env E e s') (fun k s' => I J k s') ?_ n h₂
  intro k s' hk
  refine wpAny_passesOwn hE (wpAny_mono (turn J k s' hk) (fun r s₁ hr => ?_) fun _ _ z => z)
  cases r with
  | none => exact wpAny_execs_nil hr
  | some y =>
    refine wpAny_passesOwn hE (wpAny_assign_Name (wpAny_mono hr (fun _ s₂ h₂ => ?_) fun _ _ z => z))
    refine wpAny_passesOwn hE (wpAny_mono h₂ (fun f s₃ h₃ => ?_) fun _ _ z => z)
    cases f with
    | next => exact h₃
    | cont => exact h₃
    | brk => exact h₃
    | ret _ => exact h₃

/-- a while, by an invariant over the whole state -/
theorem while_inv {env : Env} {test : Expr} {body : List Stmt} {pos : Pos} {Q : Flow → Shared → Prop} (I : Nat → Shared → Prop) (n : Nat) (h0 : I n s)
    (turn : ∀ n s, I n s → wpAny (model prog w) A (isTrue test env (eval test env)) (fun b s₂ =>
        if b = true then wpAny (model prog w) A (execs body env) (fun f s₃ => match f with
          | .next => ∃ k, k < n ∧ I k s₃
          | .cont => ∃ k, k < n ∧ I k s₃
          | .brk => Q .next s₃
          | .ret v => Q (.ret v) s₃) E s₂ else Q .next s₂) E s)
    (hE : PassesOwn (model prog w) A env E := by passes_own) :
    wpAny (model prog w) A (exec (.While test body [] pos) env) Q E s := by
  refine wpAny_While (codeAny_whileLoop (fun n s' => I n s') ?_ n h0)
  intro n s' hI
  refine wpAny_mono (turn n s' hI) (fun b s₂ h₂ => ?_) hE
  cases b with
  | false =>
    simp only [Bool.false_eq_true, if_false] at h₂ ⊢
    exact wpAny_execs_nil h₂
  | true =>
    simp only [if_true] at h₂ ⊢
    refine wpAny_mono h₂ (fun f s₃ h₃ => ?_) hE
    cases f with
    | next => exact h₃
    | cont => exact h₃
    | brk => exact h₃
    | ret v => exact h₃
/-- the same, with the invariant hidden behind a letter: the walk's continuations stay small -/
theorem for_invO {env : Env} {v : Str} {px pos : Pos} {iter : Expr} {body : List Stmt} {Q : Flow → Shared → Prop} (P : Addr → Nat → Shared → Prop)
    (h : ∀ I : Addr → Nat → Shared → Prop, (∀ J n s, P J n s → I J n s) → wpAny (model prog w) A (eval iter env) (fun xv s₁ => wpAny (model prog w) A (pyIter xv) (fun it s₂ => ∃ J n, it = .ref J ∧ I J n s₂) E s₁) E s)
    (turn : ∀ I : Addr → Nat → Shared → Prop, (∀ J n s, P J n s → I J n s) → ∀ J n s, P J n s → wpAny (model prog w) A (pyNext (.ref J)) (fun r s₁ => match r with
      | none => Q .next s₁
      | some y => wpAny (model prog w) A (storeName env v y) (fun _ s₂ => wpAny (model prog w) A (execs body env) (fun f s₃ => match f with
          | .next => ∃ k, k < n ∧ I J k s₃
          | .cont => ∃ k, k < n ∧ I J k s₃
          | .brk => Q .next s₃
          | .ret v => Q (.ret v) s₃) E s₂) E s₁) E s)
    (hs : ∀ x, foldedSetIterable iter env x = pure x := by intro _; rfl) (hE : PassesOwn (model prog w) A env E := by passes_own) :
    wpAny (model prog w) A (exec (.For (.Name v px) iter body [] pos) env) Q E s := for_inv P (h P fun _ _ _ x => x) (turn P fun _ _ _ x => x) hs hE
theorem while_invO {env : Env} {test : Expr} {body : List Stmt} {pos : Pos} {Q : Flow → Shared → Prop} (P : Nat → Shared → Prop) (n : Nat) (h0 : P n s)
    (turn : ∀ I : Nat → Shared → Prop, (∀ n s, P n s → I n s) → ∀ n s, P n s → wpAny (model prog w) A (isTrue test env (eval test env)) (fun b s₂ =>
        if b = true then wpAny (model prog w) A (execs body env) (fun f s₃ => match f with
          | .next => ∃ k, k < n ∧ I k s₃
          | .cont => ∃ k, k < n ∧ I k s₃
          | .brk => Q .next s₃
          | .ret v => Q (.ret v) s₃) E s₂ else Q .next s₂) E s)
    (hE : PassesOwn (model prog w) A env E := by passes_own) :
    wpAny (model prog w) A (exec (.While test body [] pos) env) Q E s := while_inv P n h0 (turn P fun _ _ x => x) hE
theorem kOut {P I : Addr → Nat → Shared → Prop} (hI : ∀ J n s, P J n s → I J n s) {n : Nat} {J : Addr} (h : ∃ k, k < n ∧ P J k s) : ∃ k, k < n ∧ I J k s := h.elim fun k x => ⟨k, x.1, hI _ _ _ x.2⟩
theorem kOutW {P I : Nat → Shared → Prop} (hI : ∀ n s, P n s → I n s) {n : Nat} (h : ∃ k, k < n ∧ P k s) : ∃ k, k < n ∧ I k s := h.elim fun k x => ⟨k, x.1, hI _ _ x.2⟩
theorem kOut0 {P I : Addr → Nat → Shared → Prop} (hI : ∀ J n s, P J n s → I J n s) {it : Value} (h : ∃ J n, it = .ref J ∧ P J n s) : ∃ J n, it = .ref J ∧ I J n s := h.elim fun J x => x.elim fun n y => ⟨J, n, y.1, hI _ _ _ y.2⟩
end
end Mine
end

-- part P1
section
open PySem.Builtin.Str PySem.Calls
namespace Mine
theorem clampN (i n : Nat) : max 0 (min (i : Int) n) = ((min i n : Nat) : Int) := by omega
theorem stepN (a b : Nat) : (if (a : Int) < b then ((b : Int) - a + 1 - 1) / 1 else 0).toNat = b - a := by
  rw [Int.ediv_one, Int.add_sub_cancel]
  split <;> omega
theorem slice_ix (i j n : Nat) : strSliceIndices (some (i : Int)) (some (j : Int)) 1 n = (List.range (min j n - min i n)).map (fun k => min i n + k) := by
  unfold strSliceIndices sliceRange
  simp only [show ¬ ((i : Int) < 0) from Int.not_lt.mpr (Int.natCast_nonneg i), show ¬ ((j : Int) < 0) from Int.not_lt.mpr (Int.natCast_nonneg j), if_false, show (1 : Int) > 0 by decide, if_true]
  rw [clampN, clampN, stepN]
  apply List.map_congr_left
  intro k _
  generalize min i n = a
  omega
theorem fm_range (xs : Array Nat) (a m : Nat) : ((List.range m).map (fun k => a + k)).filterMap (xs[·]?) = (xs.toList.drop a).take m := by
  induction m generalizing a with
  | zero => simp
  | succ m ih =>
    rw [List.range_succ_eq_map, List.map_cons, List.filterMap_cons]
    have e : (List.map (fun k => a + k) (List.map Nat.succ (List.range m))) = (List.range m).map (fun k => (a + 1) + k) := by
      rw [List.map_map]; apply List.map_congr_left; intro k _; simp only [Function.comp]; omega
    rw [e, ih]
    by_cases h : a < xs.size
    · have h' : a < xs.toList.length := by simpa using h
      rw [List.drop_eq_getElem_cons h', List.take_succ_cons]
      simp [h]
    · have h' : xs.toList.length ≤ a := by simpa using h
      rw [List.drop_eq_nil_of_le h', List.drop_eq_nil_of_le (by omega)]
      simp [show xs[a]? = none from by simp; omega]
theorem slice_toList (x : Str) (i j : Nat) : (Txt.slice x (some (i : Int)) (some (j : Int))).cps.toList = (x.cps.toList.drop i).take (j - i) := by
  have hn : x.length = x.cps.toList.length := by simp [Str.length]
  have main : ((strSliceIndices (some (i : Int)) (some (j : Int)) 1 x.length).filterMap (x.cps[·]?)) = (x.cps.toList.drop i).take (j - i) := by
    rw [slice_ix, fm_range]
    rcases Nat.le_total i x.length with h | h
    · rw [Nat.min_eq_left h]
      rcases Nat.le_total j x.length with h2 | h2
      · rw [Nat.min_eq_left h2]
      · rw [Nat.min_eq_right h2, List.take_of_length_le (by rw [List.length_drop]; omega), List.take_of_length_le (by rw [List.length_drop]; omega)]
    · rw [Nat.min_eq_right h, List.drop_eq_nil_of_le (by omega), List.drop_eq_nil_of_le (by omega)]; simp
  unfold Txt.slice
  split
  · rename_i hc
    rw [← main]
    have hl : (strSliceIndices (some (i : Int)) (some (j : Int)) 1 x.length).length = x.length := by simpa using hc
    rw [slice_ix] at hl ⊢
    rw [List.length_map, List.length_range] at hl
    rw [hl, fm_range]
    have : min i x.length = 0 ∨ x.length = 0 := by omega
    rcases this with h | h
    · rw [h, List.drop_zero, List.take_of_length_le (by omega)]
    · have : x.cps.toList = [] := List.length_eq_zero_iff.mp (by omega)
      rw [this]; simp
  · exact main
def chA (text : Str) (pl : Int) : Str := Txt.slice text (some pl) (some (pl + 1))
/-- the signs of the text from the place on -/
structure At (text : Str) (pl : Int) (rem : List Nat) : Prop where
  lo : 0 ≤ pl
  hi : pl ≤ (text.length : Int)
  rem : text.cps.toList.drop pl.toNat = rem
theorem str_ext {x y : Str} (h : x.cps.toList = y.cps.toList) : x = y := by
  cases x; cases y
  simp only [Str.mk.injEq]
  exact Array.toList_inj.mp h
theorem chA_toList {text : Str} {pl : Int} (h0 : 0 ≤ pl) : (chA text pl).cps.toList = (text.cps.toList.drop pl.toNat).take 1 := by
  obtain ⟨n, rfl⟩ := Int.eq_ofNat_of_zero_le h0
  have := slice_toList text n (n + 1)
  rw [show n + 1 - n = 1 by omega] at this
  exact this
theorem At.cons {text : Str} {pl : Int} {c : Nat} {r : List Nat} (a : At text pl (c :: r)) : chA text pl = ⟨#[c]⟩ ∧ At text (pl + 1) r := by
  obtain ⟨h0, h1, h2⟩ := a
  have hl : pl.toNat < text.cps.toList.length := by
    rcases Nat.lt_or_ge pl.toNat text.cps.toList.length with h | h
    · exact h
    · rw [List.drop_eq_nil_of_le h] at h2; cases h2
  have hlen : text.length = text.cps.toList.length := by simp [Str.length]
  refine ⟨str_ext ?_, by omega, by omega, ?_⟩
  · rw [chA_toList h0, h2]; rfl
  · have : (pl + 1).toNat = pl.toNat + 1 := by omega
    rw [this, ← List.drop_drop, h2]; rfl
theorem At.nil {text : Str} {pl : Int} (a : At text pl []) : chA text pl = ⟨#[]⟩ ∧ pl = text.length := by
  obtain ⟨h0, h1, h2⟩ := a
  have hlen : text.length = text.cps.toList.length := by simp [Str.length]
  have := List.drop_eq_nil_iff.mp h2
  exact ⟨str_ext (by rw [chA_toList h0, h2]; rfl), by omega⟩
end Mine
end

-- part Defs
section
open PySem.Calls
namespace Mine
/-- fixed parts of a lexer over a stream -/
structure LexA where
  (LX LD PB ST SD RD RC CT CP PL P2 : Nat)
  fd : FuncData
  (oc oct ocp : Obj)
  (kp : Nat)
  (t1 t2 t3 t4 tw u1 u2 u3 u4 u5 ui uw ux : Tok)
  text : Str
structure LexA.Ok (a : LexA) : Prop where
  ord : a.CT < a.CP ∧ a.CP < a.SD ∧ a.SD < a.ST ∧ a.ST < a.P2 ∧ a.P2 < a.PL ∧ a.PL < a.RD ∧ a.RD < a.LD ∧ a.LD < a.LX ∧ a.LX < a.PB
  rc : (a.RC < a.CT ∨ a.PL < a.RC) ∧ a.RC < a.RD
def LexA.ad (a : LexA) : List Nat := [a.RC, a.CT, a.CP, a.SD, a.ST, a.P2, a.PL, a.RD, a.LD, a.LX, a.PB]
theorem incC {x y : Nat} {l : List Nat} (h : x < y) (t : (y :: l).Pairwise (· < ·)) : (x :: y :: l).Pairwise (· < ·) :=
  List.pairwise_cons.mpr ⟨fun z hz => (List.mem_cons.mp hz).elim (fun e => e ▸ h) fun hz => Nat.lt_trans h ((List.pairwise_cons.mp t).1 z hz), t⟩
theorem incND {l : List Nat} (t : l.Pairwise (· < ·)) : l.Nodup := List.nodup_iff_pairwise_ne.mpr (t.imp Nat.ne_of_lt)
theorem notBelow {x y : Nat} {l : List Nat} (h : x < y) (t : (y :: l).Pairwise (· < ·)) : x ∉ y :: l := fun hm => (List.mem_cons.mp hm).elim (Nat.ne_of_lt h) fun hm => Nat.ne_of_lt (Nat.lt_trans h ((List.pairwise_cons.mp t).1 x hm)) rfl
theorem notC {x y : Nat} {l : List Nat} (h : y < x) (t : x ∉ l) : x ∉ y :: l := fun hm => (List.mem_cons.mp hm).elim (Nat.ne_of_gt h) t
theorem LexA.Ok.nodup {a : LexA} (o : a.Ok) : a.ad.Nodup := by
  obtain ⟨⟨a1, a2, a3, a4, a5, a6, a7, a8, a9⟩, hc, hr⟩ := o
  have p9 := incC a9 (List.pairwise_singleton _ _)
  have p7 := incC a7 (incC a8 p9)
  have p1 := incC a1 (incC a2 (incC a3 (incC a4 (incC a5 (incC a6 p7)))))
  refine List.nodup_cons.mpr ⟨?_, incND p1⟩
  rcases hc with hc | hc
  · exact notBelow hc p1
  · have c5 := Nat.lt_trans a5 hc
    have c4 := Nat.lt_trans a4 c5
    have c3 := Nat.lt_trans a3 c4
    have c2 := Nat.lt_trans a2 c3
    exact notC (Nat.lt_trans a1 c2) (notC c2 (notC c3 (notC c4 (notC c5 (notC hc (notBelow hr p7))))))
theorem okNe {a : LexA} (o : a.Ok) {i j x y : Nat} (hi : a.ad[i]? = some x) (hj : a.ad[j]? = some y) (n : (i == j) = false) : x ≠ y := ndNe o.nodup hi hj n
theorem LexA.Ok.nodup126 {a : LexA} (o : a.Ok) (h : 126 < a.CT) (hRC : a.RC ≠ 126) : (126 :: a.ad).Nodup := by
  refine List.nodup_cons.mpr ⟨?_, o.nodup⟩
  obtain ⟨⟨a1, a2, a3, a4, a5, a6, a7, a8, a9⟩, hc, hr⟩ := o
  have p1 := incC a1 (incC a2 (incC a3 (incC a4 (incC a5 (incC a6 (incC a7 (incC a8 (incC a9 (List.pairwise_singleton _ _)))))))))
  exact fun hm => (List.mem_cons.mp hm).elim hRC.symm (notBelow h p1)
def lexD (w : World) (a : LexA) (line : Int) (tl : Tok) : List DictEntry :=
  [⟨PyData.keyHash w.params "lineno", .str "lineno" a.t1, .int line tl⟩, ⟨PyData.keyHash w.params "instream", .str "instream" a.t2, .ref a.ST⟩, ⟨PyData.keyHash w.params "whitespace", .str "whitespace" a.t3, .str "\n\t\r " a.tw⟩, ⟨PyData.keyHash w.params "pushback", .str "pushback" a.t4, .ref a.PB⟩]
def strD (w : World) (a : LexA) : List DictEntry :=
  [⟨PyData.keyHash w.params "lineno", .str "lineno" a.u1, .int 1 a.ui⟩, ⟨PyData.keyHash w.params "instream", .str "instream" a.u2, .str a.text a.ux⟩, ⟨PyData.keyHash w.params "whitespace", .str "whitespace" a.u3, .str "\n\t\r " a.uw⟩, ⟨PyData.keyHash w.params "pushback", .str "pushback" a.u4, .ref a.P2⟩, ⟨PyData.keyHash w.params "read", .str "read" a.u5, .ref a.RD⟩]
def lexO (w : World) (a : LexA) (line : Int) (tl : Tok) (pb : List Value) (kb : Nat) : List (Addr × Obj) :=
  [(a.LD, dictOf (lexD w a line tl) 4), (a.PB, W.listOf pb.toArray kb), (a.LX, instObj 103 a.LD), (a.ST, instObj 103 a.SD), (a.SD, dictOf (strD w a) 5)]
def rdP (PL RD RC CT CP kp : Nat) (fd : FuncData) (oc oct ocp : Obj) (pl : Int) (tp : Tok) : List (Addr × Obj) :=
  [(PL, W.listOf #[.int pl tp] kp), (RD, ⟨.type "function", none, .func fd, #[]⟩), (RC, oc), (CT, oct), (CP, ocp)]
def rdM (a : LexA) (pl : Int) (tp : Tok) : List (Addr × Obj) := rdP a.PL a.RD a.RC a.CT a.CP a.kp a.fd a.oc a.oct a.ocp pl tp
def lexM (w : World) (a : LexA) (line : Int) (tl : Tok) (pb : List Value) (kb : Nat) (pl : Int) (tp : Tok) : List (Addr × Obj) :=
  lexO w a line tl pb kb ++ rdM a pl tp
def ReadOkP (w : World) (PL RD RC CT CP kp : Nat) (fd : FuncData) (oc oct ocp : Obj) (text : Str) : Prop := ∀ (pl : Int) (tp t1 : Tok), 0 ≤ pl → pl ≤ text.length →
  Call w 2 60 (.ref RD) [.int 1 t1] (rdP PL RD RC CT CP kp fd oc oct ocp pl tp) (fun r post => ∃ t tp', r = .str (chA text pl) t ∧ post = rdP PL RD RC CT CP kp fd oc oct ocp (pl + (chA text pl).length) tp')
def ReadOk (w : World) (a : LexA) : Prop := ReadOkP w a.PL a.RD a.RC a.CT a.CP a.kp a.fd a.oc a.oct a.ocp a.text

theorem lexPack {w : World} {g h : Heap} {L : Addr} {l : List (Addr × Obj)} {PB LX LD RD RC PL P2 ST SD CP CT : Nat} {fd : FuncData} {oc ocp oct o2 ot : Obj} {kb kp : Nat} {t1 t2 t3 t4 tw u1 u2 u3 u4 u5 ui uw ux tl tp : Tok} {text : Str} {P : Prop}
    (N : News g L h l) (hl : l = [(PB, W.listOf #[] kb), (LX, instObj 103 LD),
      (LD, dictOf [⟨PyData.keyHash w.params "lineno", .str "lineno" t1, .int 1 tl⟩, ⟨PyData.keyHash w.params "instream", .str "instream" t2, .ref ST⟩, ⟨PyData.keyHash w.params "whitespace", .str "whitespace" t3, .str "\n\t\r " tw⟩, ⟨PyData.keyHash w.params "pushback", .str "pushback" t4, .ref PB⟩] 4),
      (RD, ⟨.type "function", none, .func fd, #[]⟩), (RC, oc), (PL, W.listOf #[.int 0 tp] kp), (P2, o2), (ST, instObj 103 SD),
      (SD, dictOf [⟨PyData.keyHash w.params "lineno", .str "lineno" u1, .int 1 ui⟩, ⟨PyData.keyHash w.params "instream", .str "instream" u2, .str text ux⟩, ⟨PyData.keyHash w.params "whitespace", .str "whitespace" u3, .str "\n\t\r " uw⟩, ⟨PyData.keyHash w.params "pushback", .str "pushback" u4, .ref P2⟩, ⟨PyData.keyHash w.params "read", .str "read" u5, .ref RD⟩] 5),
      (CP, ocp), (CT, oct), (126, ot)])
    (ord : CT < CP ∧ CP < SD ∧ SD < ST ∧ ST < P2 ∧ P2 < PL ∧ PL < RD ∧ RD < LD ∧ LD < LX ∧ LX < PB) (rc : (RC < CT ∨ PL < RC) ∧ RC < RD)
    (hr : ReadOkP w PL RD RC CT CP kp fd oc oct ocp text)
    (k : ∀ a : LexA, a.Ok → ReadOk w a → a.text = text → a.CT = CT → a.RC = RC → a.LX = LX → a.oc = oc → (∀ q ∈ (126, ot) :: lexM w a 1 tl [] kb 0 tp, q ∈ l) → P) : P := by
  subst hl
  refine k ⟨LX, LD, PB, ST, SD, RD, RC, CT, CP, PL, P2, fd, oc, oct, ocp, kp, t1, t2, t3, t4, tw, u1, u2, u3, u4, u5, ui, uw, ux, text⟩ ⟨ord, rc⟩ hr rfl rfl rfl rfl rfl ?_
  simp only [lexM, lexO, rdM, rdP, lexD, strD, List.cons_append, List.nil_append]
  repeat' (first | exact List.forall_mem_nil _ | refine List.forall_mem_cons.mpr ⟨?_, ?_⟩)
  all_goals (repeat' (first | exact List.Mem.head _ | refine List.Mem.tail _ ?_))
theorem lexPack2 {w : World} {g h : Heap} {L : Addr} {l : List (Addr × Obj)} {PB LX LD RD RC PL P2 ST SD CP CT : Nat} {fd : FuncData} {oc ocp oct o2 ot : Obj} {kb kp : Nat} {t1 t2 t3 t4 tw u1 u2 u3 u4 u5 ui uw ux tl tp : Tok} {text : Str} {P : Prop}
    (N : News g L h l) (hl : l = [(PB, W.listOf #[] kb), (LX, instObj 103 LD),
      (LD, dictOf [⟨PyData.keyHash w.params "lineno", .str "lineno" t1, .int 1 tl⟩, ⟨PyData.keyHash w.params "instream", .str "instream" t2, .ref ST⟩, ⟨PyData.keyHash w.params "whitespace", .str "whitespace" t3, .str "\n\t\r " tw⟩, ⟨PyData.keyHash w.params "pushback", .str "pushback" t4, .ref PB⟩] 4),
      (RD, ⟨.type "function", none, .func fd, #[]⟩), (PL, W.listOf #[.int 0 tp] kp), (P2, o2), (ST, instObj 103 SD),
      (SD, dictOf [⟨PyData.keyHash w.params "lineno", .str "lineno" u1, .int 1 ui⟩, ⟨PyData.keyHash w.params "instream", .str "instream" u2, .str text ux⟩, ⟨PyData.keyHash w.params "whitespace", .str "whitespace" u3, .str "\n\t\r " uw⟩, ⟨PyData.keyHash w.params "pushback", .str "pushback" u4, .ref P2⟩, ⟨PyData.keyHash w.params "read", .str "read" u5, .ref RD⟩] 5),
      (CP, ocp), (CT, oct), (126, ot), (RC, oc)])
    (ord : CT < CP ∧ CP < SD ∧ SD < ST ∧ ST < P2 ∧ P2 < PL ∧ PL < RD ∧ RD < LD ∧ LD < LX ∧ LX < PB) (rc : (RC < CT ∨ PL < RC) ∧ RC < RD)
    (hr : ReadOkP w PL RD RC CT CP kp fd oc oct ocp text)
    (k : ∀ a : LexA, a.Ok → ReadOk w a → a.text = text → a.CT = CT → a.RC = RC → a.LX = LX → a.oc = oc → (∀ q ∈ (126, ot) :: lexM w a 1 tl [] kb 0 tp, q ∈ l) → P) : P := by
  subst hl
  refine k ⟨LX, LD, PB, ST, SD, RD, RC, CT, CP, PL, P2, fd, oc, oct, ocp, kp, t1, t2, t3, t4, tw, u1, u2, u3, u4, u5, ui, uw, ux, text⟩ ⟨ord, rc⟩ hr rfl rfl rfl rfl rfl ?_
  simp only [lexM, lexO, rdM, rdP, lexD, strD, List.cons_append, List.nil_append]
  repeat' (first | exact List.forall_mem_nil _ | refine List.forall_mem_cons.mpr ⟨?_, ?_⟩)
  all_goals (repeat' (first | exact List.Mem.head _ | refine List.Mem.tail _ ?_))
theorem newsHead {g h : Heap} {L x : Addr} {o o' : Obj} {l : List (Addr × Obj)} (N : News g L h ((x, o) :: l)) (e : o = o') : News g L h ((x, o') :: l) := e ▸ N

section
variable {prog : Program} {w : World} {A A₀ : Around} {s : Shared} {K : Frag} {L : Addr} {h₀ base : Heap} {m mg mb : Str → Option Value} {news : List (Addr × Obj)} {p : Program} {loose : List Str} {mean : ExcName → Option Value}
theorem code_nestK {env : Env} {outer : List Env} {R : Result → Shared → Prop} {name qual : Str} {params : Arguments} {body : List Stmt} {scope : Scope} {cl : List (Str × Addr)} {doc pm ctv : Value} {c' : Addr} {f : Addr} {args : Args} {binds : List (Str × Value)}
    (B : Below A₀ base outer h₀) (F : Fr h₀ L s.heap m) (X₀ : K.In h₀) (C : CodeHd h₀ 130 126) (N : News h₀ L s.heap news) (T : Top p loose mean mg mb h₀) (hA : A.frames = some (env :: outer)) (hf : env.frame = some L) (hke : env.scope.kind = .function)
    (ho : (f, fnMade name qual params body scope cl doc pm c' ctv) ∈ news) (hcd : s.heap.CodeRec (.ref c') qual) (hroom : A.depth < recursionLimit)
    (hbind : BindsTo s (fnX name qual params body scope cl .none .none doc pm none (.ref c') ctv) args binds) (hloc : ∀ y ∈ binds, scope.names.lookup y.1 = some .local)
    (h : ∀ g L' h₁, Fr h₀ L g m → Fr g L' h₁ (fun y => binds.reverse.lookup y) → News g L' h₁ news → Below A base (env :: outer) g → K.In g → Top p loose mean mg mb g → CodeHd g 130 126 → Keep news s.heap g → (∀ p ∈ news, p.1 < L') →
      wpAny (model prog w) (A.deeper (envX qual scope L' f (.ref c') cl)) (execs body (envX qual scope L' f (.ref c') cl))
        (fun fl s' => LeaveK h₀ L m g R (match fl with | .ret v => v | _ => .none) s')
        (fun e s' => wpAny (model prog w) (A.deeper (envX qual scope L' f (.ref c') cl)) (leaving (envX qual scope L' f (.ref c') cl) e) (fun _ s'' => R (.error e) s'') (fun e' s'' => R (.error e') s'') s')
        { s with heap := h₁, toks := s.toks + binds.length })
    (hco : scope.isCoroutine = false) (hgen : scope.isGenerator = false) (hk : scope.kind = .function)
    (hcell : ∀ x ∈ scope.names, x.2 ≠ .cell) : codeAny (model prog w) A (.call (.ref f) args) R s := by
  obtain ⟨FG, BG, st, lv⟩ := groundX (R := R) B F N hA hf hke
  refine codeAny_call_def (fd := fnX name qual params body scope cl .none .none doc pm none (.ref c') ctv) (body := body) (binds := binds) hroom (N _ ho).1 rfl (T.nolimit.keeps F.keep) hcd rfl hbind hcell hloc (fun h₁ hns hk₁ => ?_) hco hgen hk
  exact wpAny_mono (h _ s.heap.objs.size h₁ FG ⟨hns, fun b o e => hk₁ b o (of_hideAll _ e), Nat.le_of_eq (hideAll_size _ _)⟩
    (fun p hp => ⟨hk₁ _ _ (N p hp).1, Nat.ne_of_lt (Heap.lt_size (N p hp).1), hideAll_none _ (List.mem_map_of_mem hp)⟩) BG (X₀.keeps st) (T.keeps st) (C.keeps st) (fun b o e hb => hideAll_get _ e hb) (fun p hp => Heap.lt_size (N p hp).1)) (fun fl s' hl => lv _ _ hl) fun _ _ y => y
end
end Mine
end

theorem Mine.headSeen (w : World) : (PySem.Challenge.rw_rw0069_01 = PySem.Challenge.rw_rw0069_01) ∧ (hd.heap_39 w.params = hd.heap_39 w.params) := by w_top off; k_fill; exact ⟨rfl, rfl⟩

local macro_rules | `(tactic| walk_at "IX") => `(tactic| first | exact ixT 0 rfl | exact ixT 1 rfl | exact ixT 2 rfl | exact ixT 3 rfl | exact ixT 4 rfl | exact ixT 5 rfl | exact ixT 6 rfl | exact ixT 7 rfl | exact ixT 8 rfl | exact ixT 9 rfl | exact ixT 10 rfl | exact ixT 11 rfl | exact ixT 12 rfl | exact ixT 13 rfl | exact ixT 14 rfl | exact ixT 15 rfl)
local macro_rules | `(tactic| walk_at "BARE") => `(tactic| ((try (rename LexA.Ok _ => hO; obtain ⟨oA, oB⟩ := hO)); (repeat (rename AL _ _ => hA; first | (have hA1 := hA.hd; replace hA := hA.tl) | clear hA)); omega))
local macro_rules | `(tactic| walk_at "NE1") => `(tactic| first | exact AL.neR (by assumption) (by walk_at "IX") | exact neU _ | exact neU2 _ | exact Nat.ne_of_lt (by assumption) | exact AL.neT (by assumption) (by assumption) (by walk_at "IX") | exact AL.neSR (by assumption) (by walk_at "IX") | exact AL.neS2R (by assumption) (by walk_at "IX") | exact AL.neS3R (by assumption) (by walk_at "IX"))
local macro_rules | `(tactic| walk_at "NE") => `(tactic| first | assumption | walk_at "NE1" | (refine Ne.symm ?_; walk_at "NE1") | exact okNe (by assumption) (by walk_at "IX") (by walk_at "IX") (by exact rfl) | exact ndNe (by assumption) (by walk_at "IX") (by walk_at "IX") (by exact rfl) | (refine neN ?_; (try dsimp only); walk_at "BARE"))
local macro_rules | `(tactic| walk_at "LT") => `(tactic| first | assumption | exact AL.lt (by assumption) (by walk_at "IX") | exact AL.ltU (by assumption) (by assumption) (by walk_at "IX") | exact Nat.lt_succ_self _ | exact AL.ltS (by assumption) 1 (by walk_at "IX") | (refine ltN ?_; walk_at "BARE"))
local macro_rules | `(tactic| k_ne) => `(tactic| ((try dsimp only); walk_at "NE"))
local macro_rules | `(tactic| k_all) => `(tactic| first | exact AL.all (by assumption) | exact subNil | (refine neC ?a ?b; (case a => k_ne); (case b => k_all)))
local macro_rules | `(tactic| k_lt $h:ident) => `(tactic| (replace $h := AL.of $h; (try dsimp only [List.map] at $h:ident)))
local macro_rules | `(tactic| ktr_room) => `(tactic| first | exact room2 (by assumption) rfl | exact room0 (by assumption))
local macro_rules | `(tactic| ktr_units) => `(tactic| exact unit2 (by assumption) rfl)
local macro_rules | `(tactic| walk_at "INL") => `(tactic| first | assumption | exact List.Mem.head _ | (refine List.Mem.tail _ ?_; walk_at "INL") | (refine List.mem_append_left _ ?_; walk_at "INL") | (refine List.mem_append_right _ ?_; walk_at "INL"))
local macro_rules | `(tactic| walk_at "SUBL") => `(tactic| first | exact List.forall_mem_nil _ | (refine List.forall_mem_cons.mpr ⟨?_, ?_⟩; (focus walk_at "INL"); walk_at "SUBL") | (refine List.forall_mem_append.mpr ⟨?_, ?_⟩; (focus walk_at "SUBL"); walk_at "SUBL") | (intro q hq; walk_at "INL"))
local macro_rules | `(tactic| k_room) => `(tactic| ktr_room)
local macro_rules | `(tactic| walk_at "truthy ref") => `(tactic| (k_here; k_dflt (first
  | (refine' truthyL0 ?k1 ?k2 ?_; (case k1 => k_asm); (case k2 => k_mem); k_whole)
  | (refine' truthyL1 ?k1 ?k2 ?k3 ?_; (case k1 => k_asm); (case k2 => k_mem); (case k3 => first | assumption | omega); k_whole)
  | (refine' truthyL ?k1 ?k2 ?k3 ?_; (case k1 => k_asm); (case k2 => k_mem); (case k3 => first | assumption | omega); k_whole))))
local macro_rules | `(tactic| walk_at "ALLIN") => `(tactic| first | exact subI | exact subN | (refine subK ?_; walk_at "ALLIN") | (refine subS ?_; walk_at "ALLIN"))
local macro_rules | `(tactic| walk_at "SUBALL") => `(tactic| first | exact subN | (refine subC ?a ?b; (case a => k_mem); (case b => walk_at "SUBALL")))
local macro_rules | `(tactic| walk_at "OFF1") => `(tactic| first | exact offN | exact AL.off (by assumption) | (refine offS ?a ?b; (case a => walk_at "NE"); (case b => walk_at "OFF1")))
local macro_rules | `(tactic| walk_at "OFF") => `(tactic| first | exact offNil | (refine offC ?a ?b; (case a => walk_at "OFF1"); (case b => walk_at "OFF")) | exact AL.all (by assumption) | exact subNil | (refine neC ?a ?b; (case a => walk_at "NE"); (case b => walk_at "OFF")))
local macro_rules | `(tactic| walk_at "ite") => `(tactic| first | rw [if_pos (by decide +kernel)] | rw [if_neg (by decide +kernel)])

-- part Lex
namespace Mine
theorem push_call (w : World) (a : LexA) (ok : a.Ok) (v : Value) (line : Int) (tl : Tok) (pb : List Value) (kb : Nat) (pl : Int) (tp : Tok) (hp : pb.length < 1000) :
    Call w 2 100 (.ref 100) [.ref a.LX, v] (lexM w a line tl pb kb pl tp) (fun r post => r = .none ∧ ∃ kb', post = lexM w a line tl (pb ++ [v]) kb' pl tp) := by
  unfold Call
  intro p loose mean mg mb dp un gd cn cs b ccd cl outer A₀ base h₀ L m s Q E B F X C N T hcs hd hu hret
  dsimp only [lexM, lexO, rdM, rdP, lexD, strD, List.cons_append, List.nil_append] at N
  ((k_dflt (refine' code_defK ?k1 ?k2 ?k3 ?kC ?k4 ?k5 ?kA ?kF ?kK ?k6 ?k7 ?k8 ?k9 ?kB ?_ ?c2 ?c3 ?c4 ?c5; (case kA => exact rfl); (case kF => exact rfl); (case kK => assumption); (case k1 => k_asm); (case k2 => k_asm); (case k3 => k_asm); (case kC => k_asm); (case k4 => k_asm); (case k5 => k_asm); (case k6 => k_is); (case k7 => k_is); (case k8 => k_room); (case k9 => first | exact BindsTo.of_eq rfl | (refine' kp_binds ?kx ?ke; (case kx => k_in); (case ke => exact fun _ => rfl))); (case c5 => decide); (case kB => exact locs rfl); (case c2 => exact rfl); (case c3 => exact rfl); (case c4 => exact rfl); k_whole)))
  intro g' L' h' FG' F' N' B' X' T' C' Kg l1
  (try dsimp only); (try k_fold)
  k_steps
  rename News _ _ _ _ => NE
  simp only [List.push_toArray] at NE
  exact hret _ _ _ _ ⟨rfl, _, rfl⟩ (by assumption) NE (Keep.fr Kg (by assumption)) (Fresh.same rfl)

theorem read_call (w : World) (a : LexA) (ok : a.Ok) (hread : ReadOk w a) (line : Int) (tl : Tok) (pb : List Value) (kb : Nat) (pl : Int) (tp : Tok) (h0 : 0 ≤ pl) (h1 : pl ≤ a.text.length) :
    Call w 4 150 (.ref 86) [.ref a.LX] (lexM w a line tl pb kb pl tp) (fun r post => ∃ t tl' tp', r = .str (chA a.text pl) t ∧
      post = lexM w a (if chA a.text pl = "\n" then line + 1 else line) tl' pb kb (pl + (chA a.text pl).length) tp') := by
  unfold Call
  intro p loose mean mg mb dp un gd cn cs b ccd cl outer A₀ base h₀ L m s Q E B F X C N T hcs hd hu hret
  dsimp only [lexM, lexO, rdM, rdP, lexD, strD, List.cons_append, List.nil_append] at N
  ((k_dflt (refine' code_defK ?k1 ?k2 ?k3 ?kC ?k4 ?k5 ?kA ?kF ?kK ?k6 ?k7 ?k8 ?k9 ?kB ?_ ?c2 ?c3 ?c4 ?c5; (case kA => exact rfl); (case kF => exact rfl); (case kK => assumption); (case k1 => k_asm); (case k2 => k_asm); (case k3 => k_asm); (case kC => k_asm); (case k4 => k_asm); (case k5 => k_asm); (case k6 => k_is); (case k7 => k_is); (case k8 => k_room); (case k9 => first | exact BindsTo.of_eq rfl | (refine' kp_binds ?kx ?ke; (case kx => k_in); (case ke => exact fun _ => rfl))); (case c5 => decide); (case kB => exact locs rfl); (case c2 => exact rfl); (case c3 => exact rfl); (case c4 => exact rfl); k_whole)))
  intro g' L' h' FG' F' N' B' X' T' C' Kg l1
  (try dsimp only); (try k_fold)
  k_steps
  refine' Call.use (hread pl tp _ h0 h1) (rest := lexO w a line tl pb kb) ?B ?F ?X ?C ?N ?T ?hs ?hr ?ho ?hk ?hd ?hu ?_
  (((case B => assumption); (case F => assumption); (case X => assumption); (case C => assumption); (case N => assumption); (case T => assumption); (case hs => (first | exact subI | (((try dsimp only [lexM, lexO, rdM, rdP, lexD, strD, List.cons_append, List.nil_append])); first | walk_at "ALLIN" | walk_at "SUBALL"))); (case hr => (first | exact subI | (((try dsimp only [lexM, lexO, rdM, rdP, lexD, strD, List.cons_append, List.nil_append])); first | walk_at "ALLIN" | walk_at "SUBALL"))); (case ho => first | walk_at "OFF" | (((try dsimp only [lexM, lexO, rdM, rdP, lexD, strD, List.cons_append, List.nil_append])); walk_at "OFF")); (case hk => first | exact rfl | assumption); (case hd => ktr_room); (case hu => ktr_units)))
  rintro _ _ h2 tk2 ⟨t, tp', rfl, rfl⟩ F2 N2 K2 Z2
  simp only [lexO, rdM, rdP, lexD, strD, List.cons_append, List.nil_append] at N2
  (try dsimp only); (try k_fold)
  k_steps
  · rename News _ _ _ _ => NE
    rename (_ = true) => hq
    refine' hret _ (lexM w a (line + 1) ?tl1 pb kb (pl + (chA a.text pl).length) tp') _ _ ?P1 (by assumption) ?N1 (Keep.fr Kg (by assumption)) ?Z1
    case N1 => exact newsSub NE (by (first | exact subI | (((try dsimp only [lexM, lexO, rdM, rdP, lexD, strD, List.cons_append, List.nil_append])); first | walk_at "ALLIN" | walk_at "SUBALL")))
    case P1 => exact ⟨_, _, _, rfl, by rw [if_pos (by simpa using hq)]⟩
    case Z1 => exact Fresh.same rfl
  · rename News _ _ _ _ => NE
    rename (_ = false) => hq
    refine' hret _ (lexM w a line tl pb kb (pl + (chA a.text pl).length) tp') _ _ ?P (by assumption) ?N (Keep.fr Kg (by assumption)) (Fresh.same rfl)
    case N => exact newsSub NE (by (first | exact subI | (((try dsimp only [lexM, lexO, rdM, rdP, lexD, strD, List.cons_append, List.nil_append])); first | walk_at "ALLIN" | walk_at "SUBALL")))
    case P => exact ⟨_, _, _, rfl, by rw [if_neg (by simpa using hq)]⟩
end Mine

-- part Get
namespace Mine
def dots (n : Nat) : Str := ⟨(List.replicate n 46).toArray⟩
theorem dots_length (n : Nat) : (dots n).length = n := by simp [dots, Str.length]
theorem dots_snoc (n : Nat) : dots n ++ Str.ofString "." = dots (n + 1) := by
  rw [show Str.ofString "." = ⟨#[46]⟩ from by decide]
  apply str_ext
  show (((List.replicate n 46).toArray) ++ #[46]).toList = (List.replicate (n + 1) 46).toArray.toList
  simp [List.replicate_succ']
/-- a moment within get_token's loops -/
inductive GSt (w : World) (a : LexA) (s : Shared) (g : Heap) (L : Addr) (IT MO kb : Nat) (tok : Str) (line pl : Int) (rem : List Nat) (s1 : Shared) : Prop
  | mk (h : Heap) (tk tl tp tt tI : Nat) (e : s1 = { s with heap := h, toks := tk }) (F : FrAt g L h [("self", .ref a.LX), ("fiter", .ref IT), ("token", .str tok tt)])
    (N : News g L h ((IT, ciObj (.ref MO) "" tI) :: (MO, methodObj (.ref 86) (.ref a.LX)) :: lexM w a line tl [] kb pl tp)) (hat : At a.text pl rem)
/-- behind its end -/
inductive GEnd (w : World) (a : LexA) (s : Shared) (g : Heap) (L : Addr) (kb : Nat) (tok : Str) (line pl : Int) (s1 : Shared) : Prop
  | mk (h : Heap) (tk tl tp tt : Nat) (e : s1 = { s with heap := h, toks := tk }) (F : FrAt g L h [("token", .str tok tt)]) (N : News g L h (lexM w a line tl [] kb pl tp))
/-- while rows' ends are passed over -/
inductive GI (w : World) (a : LexA) (s : Shared) (g : Heap) (L : Addr) (IT MO kb : Nat) (line pl : Int) (j : Nat) (rest : List Nat) (J : Addr) (n : Nat) (s2 : Shared) : Prop
  | mk (j' : Nat) (line' pl' : Int) (eJ : IT = J) (en : n = j' + 1) (e1 : line' + j' = line + j) (e2 : pl' + j' = pl + j) (S : GSt w a s g L IT MO kb "" line' pl' (List.replicate j' 10 ++ rest) s2)
/-- while dots are read -/
inductive GI2 (w : World) (a : LexA) (s : Shared) (g : Heap) (L : Addr) (IT MO kb : Nat) (line' pl : Int) (j d : Nat) (tail : List Nat) (J : Addr) (n : Nat) (s2 : Shared) : Prop
  | mk (k' : Nat) (pl4 : Int) (tok : Str) (eJ : IT = J) (en : n = k' + 1) (hk : k' ≤ d) (e4 : pl4 + k' = pl + j + d + 1) (ht : tok = dots (d + 1 - k')) (S : GSt w a s g L IT MO kb tok line' pl4 (List.replicate k' 46 ++ 13 :: tail) s2)
inductive GP (w : World) (a : LexA) (line : Int) (kb : Nat) (pl : Int) (x : Str) (r : Value) (post : List (Addr × Obj)) : Prop
  | mk (t tl' tp' : Nat) (er : r = .str x t) (ep : post = lexM w a line tl' [] kb pl tp')
theorem extFr {g h h' : Heap} {L I : Addr} {m : Str → Option Value} (F : Fr g L h m) (x : Heap.ExtBut I h h') (hI : I ≠ L) (hg : g.get? I = none) : Fr g L h' m :=
  ⟨F.ns.extBut x (Ne.symm hI), fun b o e => x b o (fun q => by rw [q, hg] at e; cases e) (F.keep b o e), F.above⟩
theorem extNews {g h h' : Heap} {L I : Addr} {l : List (Addr × Obj)} (N : News g L h l) (x : Heap.ExtBut I h h') (hI : ∀ q ∈ l, q.1 ≠ I) : News g L h' l :=
  fun q hq => ⟨x _ _ (hI q hq) (N q hq).1, (N q hq).2⟩

theorem newsRot {g h : Heap} {L : Addr} {x y : Addr × Obj} {l : List (Addr × Obj)} (N : News g L h (l ++ [x, y])) : News g L h (x :: y :: l) :=
  newsSub N fun q hq => by
    rcases List.mem_cons.mp hq with rfl | hq
    · simp
    rcases List.mem_cons.mp hq with rfl | hq
    · simp
    exact List.mem_append.mpr (.inl hq)
theorem nl_iff (c : Nat) : ((⟨#[c]⟩ : Str) = Str.ofString "\n") ↔ c = 10 := by
  rw [show Str.ofString "\n" = ⟨#[10]⟩ from by decide]
  simp
section
variable {w : World} {p : Program} {loose : List Str} {mean : ExcName → Option Value} {mg mb : Str → Option Value}
    {dp un : Nat} {gd : Option (List Code)} {cn : Str} {cs : Scope} {b : Addr} {ccd : Value} {cl : List (Str × Addr)} {outer : List Env} {A₀ : Around} {base g : Heap} {L : Addr} {s s1 : Shared} {Q : Option Value → Shared → Prop} {E : Value → Shared → Prop}
    {a : LexA} {IT MO kb : Nat} {tok : Str} {line pl : Int} {rem : List Nat}
theorem lexM_below {w : World} {line : Int} {tl : Nat} {pb : List Value} {pl : Int} {tp : Nat} (ok : a.Ok) (hit : a.PB < IT) : AL IT ((lexM w a line tl pb kb pl tp).map (·.1)) := by
  obtain ⟨⟨a1, a2, a3, a4, a5, a6, a7, a8, a9⟩, o2⟩ := ok
  have b9 := Nat.lt_trans a9 hit
  have b8 := Nat.lt_trans a8 b9
  have b7 := Nat.lt_trans a7 b8
  have b6 := Nat.lt_trans a6 b7
  have b4 := Nat.lt_trans a4 (Nat.lt_trans a5 b6)
  have b3 := Nat.lt_trans a3 b4
  have b2 := Nat.lt_trans a2 b3
  exact AL.cons b8 (AL.cons hit (AL.cons b9 (AL.cons b4 (AL.cons b3 (AL.cons b6 (AL.cons b7 (AL.cons (Nat.lt_trans o2.2 b7) (AL.cons (Nat.lt_trans a1 b2) (AL.cons b2 AL.nil)))))))))
theorem next_cons {c : Nat} (ok : a.Ok) (hread : ReadOk w a) (hit : a.PB < MO ∧ MO < IT) (B : Below A₀ base outer g) (X : (hd.heap_39 w.params).In g) (C : CodeHd g 130 126) (T : Top p loose mean mg mb g) (hk : cs.kind = .function) (hd : dp + 4 < recursionLimit) (hu : un + 200 < cLine)
    (S : GSt w a s g L IT MO kb tok line pl (c :: rem) s1)
    (k : ∀ s2 t, GSt w a s g L IT MO kb tok (if c = 10 then line + 1 else line) (pl + 1) rem s2 → Q (some (.str ⟨#[c]⟩ t)) s2) :
    wpAny (model Prg w) (ktrTop dp un gd cn cs L b ccd cl outer) (pyNext (.ref IT)) Q E s1 := by
  obtain ⟨h, tk, tl, tp, tt, tI, rfl, ⟨m, F, hm⟩, N, hat⟩ := S
  refine ci_next (MO := MO) (g := 86) (self := .ref a.LX) (t := tI) (x := "") rfl (N _ (.head _)).1 (N _ (.tail _ (.head _))).1 (F.keep _ _ (X 86 _ (by k_is))) ?_
  obtain ⟨hc, hat'⟩ := hat.cons
  have hA1 := lexM_below (w := w) (line := line) (tl := tl) (pb := []) (kb := kb) (pl := pl) (tp := tp) ok hit.1
  have hA2 := lexM_below (w := w) (line := line) (tl := tl) (pb := []) (kb := kb) (pl := pl) (tp := tp) ok (Nat.lt_trans hit.1 hit.2)
  refine' Call.code (read_call w a ok hread line tl [] kb pl tp hat.lo hat.hi) (rest := [(IT, ciObj (.ref MO) "" tI), (MO, methodObj (.ref 86) (.ref a.LX))]) (dp := dp) (un := un + 1) ?B ?F ?X ?C ?N ?T ?hs ?hr ?ho ?hk ?hd ?hu ?_
  (((case B => assumption); (case F => assumption); (case X => assumption); (case C => assumption); (case N => assumption); (case T => assumption); (case hs => (first | exact subI | (((try dsimp only [lexM, lexO, rdM, rdP, lexD, strD, List.cons_append, List.nil_append])); first | walk_at "ALLIN" | walk_at "SUBALL"))); (case hr => (first | exact subI | (((try dsimp only [lexM, lexO, rdM, rdP, lexD, strD, List.cons_append, List.nil_append])); first | walk_at "ALLIN" | walk_at "SUBALL"))); (case ho => first | walk_at "OFF" | (((try dsimp only [lexM, lexO, rdM, rdP, lexD, strD, List.cons_append, List.nil_append])); walk_at "OFF")); (case hk => first | exact rfl | assumption); (case hd => ktr_room); (case hu => ktr_units)))
  rintro _ _ h2 tk2 ⟨t, tl', tp', rfl, rfl⟩ F2 N2 K2 Z2
  have g1 := (N2 _ (List.mem_append.mpr (.inr (.head _)))).1
  have g2 := (N2 _ (List.mem_append.mpr (.inr (.tail _ (.head _))))).1
  refine ⟨⟨#[c]⟩, t, .ref MO, tI, by rw [hc], g1, ⟨MO, 86, .ref a.LX, _, _, _, _, rfl, g2, F2.keep _ _ (X 86 _ (by k_is)), Nat.ne_of_lt hit.2⟩, fun _ => ?_, fun e => ?_⟩
  · refine k _ _ ⟨h2, tk2, tl', tp', tt, tI, rfl, ⟨m, F2, hm⟩, ?_, hat'⟩
    have := newsRot N2
    rw [hc, show (((⟨#[c]⟩ : Str).length : Nat) : Int) = 1 from rfl] at this
    simpa only [nl_iff] using this
  · exact absurd e (by rw [show Str.ofString "" = ⟨#[]⟩ from by decide]; simp)
theorem next_nil (ok : a.Ok) (hread : ReadOk w a) (hit : a.PB < MO ∧ MO < IT) (B : Below A₀ base outer g) (X : (hd.heap_39 w.params).In g) (C : CodeHd g 130 126) (T : Top p loose mean mg mb g) (hk : cs.kind = .function) (hd : dp + 4 < recursionLimit) (hu : un + 200 < cLine)
    (S : GSt w a s g L IT MO kb tok line pl [] s1)
    (k : ∀ s2, GEnd w a s g L kb tok line pl s2 → Q none s2) :
    wpAny (model Prg w) (ktrTop dp un gd cn cs L b ccd cl outer) (pyNext (.ref IT)) Q E s1 := by
  obtain ⟨h, tk, tl, tp, tt, tI, rfl, ⟨m, F, hm⟩, N, hat⟩ := S
  refine ci_next (MO := MO) (g := 86) (self := .ref a.LX) (t := tI) (x := "") rfl (N _ (.head _)).1 (N _ (.tail _ (.head _))).1 (F.keep _ _ (X 86 _ (by k_is))) ?_
  obtain ⟨hc, hpl⟩ := hat.nil
  have hA1 := lexM_below (w := w) (line := line) (tl := tl) (pb := []) (kb := kb) (pl := pl) (tp := tp) ok hit.1
  have hA2 := lexM_below (w := w) (line := line) (tl := tl) (pb := []) (kb := kb) (pl := pl) (tp := tp) ok (Nat.lt_trans hit.1 hit.2)
  refine' Call.code (read_call w a ok hread line tl [] kb pl tp hat.lo hat.hi) (rest := [(IT, ciObj (.ref MO) "" tI), (MO, methodObj (.ref 86) (.ref a.LX))]) (dp := dp) (un := un + 1) ?B ?F ?X ?C ?N ?T ?hs ?hr ?ho ?hk ?hd ?hu ?_
  (((case B => assumption); (case F => assumption); (case X => assumption); (case C => assumption); (case N => assumption); (case T => assumption); (case hs => (first | exact subI | (((try dsimp only [lexM, lexO, rdM, rdP, lexD, strD, List.cons_append, List.nil_append])); first | walk_at "ALLIN" | walk_at "SUBALL"))); (case hr => (first | exact subI | (((try dsimp only [lexM, lexO, rdM, rdP, lexD, strD, List.cons_append, List.nil_append])); first | walk_at "ALLIN" | walk_at "SUBALL"))); (case ho => first | walk_at "OFF" | (((try dsimp only [lexM, lexO, rdM, rdP, lexD, strD, List.cons_append, List.nil_append])); walk_at "OFF")); (case hk => first | exact rfl | assumption); (case hd => ktr_room); (case hu => ktr_units)))
  rintro _ _ h2 tk2 ⟨t, tl', tp', rfl, rfl⟩ F2 N2 K2 Z2
  have g1 := N2 _ (List.mem_append.mpr (.inr (.head _)))
  have g2 := (N2 _ (List.mem_append.mpr (.inr (.tail _ (.head _))))).1
  refine ⟨⟨#[]⟩, t, .ref MO, tI, by rw [hc], g1.1, ⟨MO, 86, .ref a.LX, _, _, _, _, rfl, g2, F2.keep _ _ (X 86 _ (by k_is)), Nat.ne_of_lt hit.2⟩, fun e => ?_, fun _ h' hx => ?_⟩
  · exact absurd (show (⟨#[]⟩ : Str) = Str.ofString "" by decide) e
  · refine k _ ⟨h', tk2, tl', tp', tt, rfl, (FrAt.mk m (extFr F2 hx g1.2.1 g1.2.2) hm).drop.drop, ?_⟩
    have N3 : News g L h2 (lexM w a line tl' [] kb pl tp') := by
      have := newsSub N2 (l' := lexM w a (if chA a.text pl = Str.ofString "\n" then line + 1 else line) tl' [] kb (pl + (chA a.text pl).length) tp') fun q hq => List.mem_append.mpr (.inl hq)
      rw [hc, if_neg (by rw [show Str.ofString "\n" = ⟨#[10]⟩ from by decide]; simp)] at this
      rw [show (((⟨#[]⟩ : Str).length : Nat) : Int) = 0 from rfl, Int.add_zero] at this
      exact this
    refine extNews N3 hx ?_
    exact (lexM_below ok (Nat.lt_trans hit.1 hit.2)).all
end

theorem get0_call (w : World) (a : LexA) (ok : a.Ok) (hread : ReadOk w a) (line : Int) (tl : Tok) (kb : Nat) (pl : Int) (tp : Tok) (j d : Nat) (tail : List Nat) (hd9 : d < 1000) (hat : At a.text pl (List.replicate j 10 ++ (List.replicate (d + 1) 46 ++ 13 :: tail))) :
    Call w 6 300 (.ref 93) [.ref a.LX] (lexM w a line tl [] kb pl tp) (GP w a (line + j) kb (pl + j + d + 2) (dots (d + 1))) := by
  unfold Call
  intro p loose mean mg mb dp un gd cn cs b ccd cl outer A₀ base h₀ L m s Q E B F X C N T hcs hd hu hret
  dsimp only [lexM, lexO, rdM, rdP, lexD, strD, List.cons_append, List.nil_append] at N
  ((k_dflt (refine' code_defK ?k1 ?k2 ?k3 ?kC ?k4 ?k5 ?kA ?kF ?kK ?k6 ?k7 ?k8 ?k9 ?kB ?_ ?c2 ?c3 ?c4 ?c5; (case kA => exact rfl); (case kF => exact rfl); (case kK => assumption); (case k1 => k_asm); (case k2 => k_asm); (case k3 => k_asm); (case kC => k_asm); (case k4 => k_asm); (case k5 => k_asm); (case k6 => k_is); (case k7 => k_is); (case k8 => k_room); (case k9 => first | exact BindsTo.of_eq rfl | (refine' kp_binds ?kx ?ke; (case kx => k_in); (case ke => exact fun _ => rfl))); (case c5 => decide); (case kB => exact locs rfl); (case c2 => exact rfl); (case c3 => exact rfl); (case c4 => exact rfl); k_whole)))
  intro g' L' h' FG' F' N' B' X' T' C' Kg l1
  change Fr g' L' h' (fun y => List.lookup y [(Str.ofString "self", Value.ref a.LX)]) at F'
  (try dsimp only); (try k_fold)
  (repeat' (first | (k_unfold; (try dsimp only)) | (k_end; wrow_close) | ((((fail_if_success (with_reducible show wpAny _ _ (exec (Stmt.For _ _ _ _ _) _) _ _ _)); (fail_if_success (with_reducible show wpAny _ _ (exec (Stmt.While _ _ _ _) _) _ _ _)); (fail_if_success (with_reducible show Exists _)); (fail_if_success (with_reducible show wpAny _ _ (eval (Expr.ListComp _ _ _ _) _) _ _ _)); (fail_if_success (with_reducible show LCg.CompSrc _ _ _ _ _ _ _ _ _ _ _ _ _ _)); (fail_if_success (with_reducible show LCt.CompSrcT _ _ _ _ _ _ _ _ _ _ _ _ _ _ _)); (fail_if_success ((with_reducible refine stopAt ?gdK ?gdH); (case gdK => exact rfl))))); (try (rename News _ _ _ _ => nN; dsimp only at nN)); walk1) | ((((fail_if_success (with_reducible show wpAny _ _ (exec (Stmt.For _ _ _ _ _) _) _ _ _)); (fail_if_success (with_reducible show wpAny _ _ (exec (Stmt.While _ _ _ _) _) _ _ _)); (fail_if_success (with_reducible show Exists _)); (fail_if_success (with_reducible show wpAny _ _ (eval (Expr.ListComp _ _ _ _) _) _ _ _)); (fail_if_success (with_reducible show LCg.CompSrc _ _ _ _ _ _ _ _ _ _ _ _ _ _)); (fail_if_success (with_reducible show LCt.CompSrcT _ _ _ _ _ _ _ _ _ _ _ _ _ _ _)); (fail_if_success ((with_reducible refine stopAt ?gdK ?gdH); (case gdK => exact rfl))))); dsimp only; walk1) | (leave1; walk_say "STEP leave1"; try dsimp only) | fail "no step"))
  ((k_here; k_dflt (refine' iter2 ?k1 ?k2 ?k3 ?_; (case k1 => k_asm); (case k2 => k_asm); (case k3 => k_mem); k_whole); intro IT' h' F' N' l1; (try k_lt l1)))
  (repeat' (first | (k_unfold; (try dsimp only)) | (k_end; wrow_close) | ((((fail_if_success (with_reducible show wpAny _ _ (exec (Stmt.For _ _ _ _ _) _) _ _ _)); (fail_if_success (with_reducible show wpAny _ _ (exec (Stmt.While _ _ _ _) _) _ _ _)); (fail_if_success (with_reducible show Exists _)); (fail_if_success (with_reducible show wpAny _ _ (eval (Expr.ListComp _ _ _ _) _) _ _ _)); (fail_if_success (with_reducible show LCg.CompSrc _ _ _ _ _ _ _ _ _ _ _ _ _ _)); (fail_if_success (with_reducible show LCt.CompSrcT _ _ _ _ _ _ _ _ _ _ _ _ _ _ _)); (fail_if_success ((with_reducible refine stopAt ?gdK ?gdH); (case gdK => exact rfl))))); (try (rename News _ _ _ _ => nN; dsimp only at nN)); walk1) | ((((fail_if_success (with_reducible show wpAny _ _ (exec (Stmt.For _ _ _ _ _) _) _ _ _)); (fail_if_success (with_reducible show wpAny _ _ (exec (Stmt.While _ _ _ _) _) _ _ _)); (fail_if_success (with_reducible show Exists _)); (fail_if_success (with_reducible show wpAny _ _ (eval (Expr.ListComp _ _ _ _) _) _ _ _)); (fail_if_success (with_reducible show LCg.CompSrc _ _ _ _ _ _ _ _ _ _ _ _ _ _)); (fail_if_success (with_reducible show LCt.CompSrcT _ _ _ _ _ _ _ _ _ _ _ _ _ _ _)); (fail_if_success ((with_reducible refine stopAt ?gdK ?gdH); (case gdK => exact rfl))))); dsimp only; walk1) | (leave1; walk_say "STEP leave1"; try dsimp only) | fail "no step"))
  rename_i MO i1 i2 hh FF NN
  have hit : a.PB < MO ∧ MO < IT' := ⟨i2.lt (ixT 1 rfl), l1.lt (ixT 0 rfl)⟩
  refine for_invO (GI w a s g' L' IT' MO kb line pl j (List.replicate (d + 1) 46 ++ 13 :: tail)) (fun Iv hIv => ?_) (fun Iv hIv => ?_)
  · walk1
    refine ci_pyIter NN (by k_mem) ?_
    refine kOut0 hIv ?_
    exact ⟨IT', j + 1, rfl, j, line, pl, rfl, rfl, rfl, rfl, _, _, tl, tp, _, _, rfl, ⟨_, FF, rfl⟩, newsSub NN (by (first | exact subI | (((try dsimp only [lexM, lexO, rdM, rdP, lexD, strD, List.cons_append, List.nil_append])); first | walk_at "ALLIN" | walk_at "SUBALL"))), hat⟩
  · clear FF NN
    rintro J n s2 ⟨j', line', pl', rfl, rfl, e1, e2, S⟩
    cases j' with
    | succ j' =>
      refine next_cons ok hread hit B' X' C' T' rfl (by ktr_room) (by ktr_units) S ?_
      rintro s3 t ⟨h3, tk3, tl3, tp3, tt3, tI3, rfl, F3, N3, hat3⟩
      refine F3.use fun m3 F4 => ?_
      clear F3
      dsimp only [lexM, lexO, rdM, rdP, lexD, strD, List.cons_append, List.nil_append] at N3
      rw [if_pos rfl] at N3
      dsimp only
      (repeat' (first | (k_unfold; (try dsimp only)) | (k_end; wrow_close) | ((((fail_if_success (with_reducible show wpAny _ _ (exec (Stmt.For _ _ _ _ _) _) _ _ _)); (fail_if_success (with_reducible show wpAny _ _ (exec (Stmt.While _ _ _ _) _) _ _ _)); (fail_if_success (with_reducible show Exists _)); (fail_if_success (with_reducible show wpAny _ _ (eval (Expr.ListComp _ _ _ _) _) _ _ _)); (fail_if_success (with_reducible show LCg.CompSrc _ _ _ _ _ _ _ _ _ _ _ _ _ _)); (fail_if_success (with_reducible show LCt.CompSrcT _ _ _ _ _ _ _ _ _ _ _ _ _ _ _)); (fail_if_success ((with_reducible refine stopAt ?gdK ?gdH); (case gdK => exact rfl))))); (try (rename News _ _ _ _ => nN; dsimp only at nN)); walk1) | ((((fail_if_success (with_reducible show wpAny _ _ (exec (Stmt.For _ _ _ _ _) _) _ _ _)); (fail_if_success (with_reducible show wpAny _ _ (exec (Stmt.While _ _ _ _) _) _ _ _)); (fail_if_success (with_reducible show Exists _)); (fail_if_success (with_reducible show wpAny _ _ (eval (Expr.ListComp _ _ _ _) _) _ _ _)); (fail_if_success (with_reducible show LCg.CompSrc _ _ _ _ _ _ _ _ _ _ _ _ _ _)); (fail_if_success (with_reducible show LCt.CompSrcT _ _ _ _ _ _ _ _ _ _ _ _ _ _ _)); (fail_if_success ((with_reducible refine stopAt ?gdK ?gdH); (case gdK => exact rfl))))); dsimp only; walk1) | (leave1; walk_say "STEP leave1"; try dsimp only) | fail "no step"))
      dsimp only
      rename News _ _ _ _ => NE
      rename Fr _ _ _ _ => FE
      refine kOut hIv ?_
      exact ⟨j' + 1, Nat.lt_succ_self _, j', line' + 1, pl' + 1, rfl, rfl, (icast1 _ _).trans e1, (icast1 _ _).trans e2, _, _, tl3, tp3, _, _, rfl, ⟨_, FE, rfl⟩, newsSub NE (by (first | exact subI | (((try dsimp only [lexM, lexO, rdM, rdP, lexD, strD, List.cons_append, List.nil_append])); first | walk_at "ALLIN" | walk_at "SUBALL"))), hat3⟩
    | zero =>
      have S' : GSt w a s g' L' IT' MO kb "" line' pl' (46 :: (List.replicate d 46 ++ 13 :: tail)) s2 := S
      refine next_cons ok hread hit B' X' C' T' rfl (by ktr_room) (by ktr_units) S' ?_
      clear S S'
      rintro s3 t ⟨h3, tk3, tl3, tp3, tt3, tI3, rfl, F3, N3, hat3⟩
      refine F3.use fun m3 F4 => ?_
      clear F3
      dsimp only [lexM, lexO, rdM, rdP, lexD, strD, List.cons_append, List.nil_append] at N3
      rw [if_neg (by decide)] at N3
      dsimp only
      (repeat' (first | (k_unfold; (try dsimp only)) | (k_end; wrow_close) | ((((fail_if_success (with_reducible show wpAny _ _ (exec (Stmt.For _ _ _ _ _) _) _ _ _)); (fail_if_success (with_reducible show wpAny _ _ (exec (Stmt.While _ _ _ _) _) _ _ _)); (fail_if_success (with_reducible show Exists _)); (fail_if_success (with_reducible show wpAny _ _ (eval (Expr.ListComp _ _ _ _) _) _ _ _)); (fail_if_success (with_reducible show LCg.CompSrc _ _ _ _ _ _ _ _ _ _ _ _ _ _)); (fail_if_success (with_reducible show LCt.CompSrcT _ _ _ _ _ _ _ _ _ _ _ _ _ _ _)); (fail_if_success ((with_reducible refine stopAt ?gdK ?gdH); (case gdK => exact rfl))))); (try (rename News _ _ _ _ => nN; dsimp only at nN)); walk1) | ((((fail_if_success (with_reducible show wpAny _ _ (exec (Stmt.For _ _ _ _ _) _) _ _ _)); (fail_if_success (with_reducible show wpAny _ _ (exec (Stmt.While _ _ _ _) _) _ _ _)); (fail_if_success (with_reducible show Exists _)); (fail_if_success (with_reducible show wpAny _ _ (eval (Expr.ListComp _ _ _ _) _) _ _ _)); (fail_if_success (with_reducible show LCg.CompSrc _ _ _ _ _ _ _ _ _ _ _ _ _ _)); (fail_if_success (with_reducible show LCt.CompSrcT _ _ _ _ _ _ _ _ _ _ _ _ _ _ _)); (fail_if_success ((with_reducible refine stopAt ?gdK ?gdH); (case gdK => exact rfl))))); dsimp only; walk1) | (leave1; walk_say "STEP leave1"; try dsimp only) | fail "no step"))
      rename News _ _ _ _ => NE
      rename Fr _ _ _ _ => FE
      refine for_invO (GI2 w a s g' L' IT' MO kb line' pl j d tail) (fun Iv hIv => ?_) (fun Iv hIv => ?_)
      · walk1
        refine ci_pyIter NE (by k_mem) ?_
        refine kOut0 hIv ?_
        exact ⟨IT', d + 1, rfl, d, pl' + 1, Str.ofString "" ++ Str.ofString ".", rfl, rfl, Nat.le_refl _, e2 ▸ icast2 _ _, by rw [← nsub2]; decide, _, _, tl3, tp3, _, _, rfl, ⟨_, FE, rfl⟩, newsSub NE (by (first | exact subI | (((try dsimp only [lexM, lexO, rdM, rdP, lexD, strD, List.cons_append, List.nil_append])); first | walk_at "ALLIN" | walk_at "SUBALL"))), hat3⟩
      · clear NE FE
        rintro J' n4 s4 ⟨k', pl4, tok, rfl, rfl, hk4, e4, ht, S4⟩
        have hl : tok.length ≤ 1000 := by rw [ht, dots_length]; exact nsub3 hd9
        cases k' with
        | succ k' =>
          have S4' : GSt w a s g' L' IT' MO kb tok line' pl4 (46 :: (List.replicate k' 46 ++ 13 :: tail)) s4 := S4
          refine next_cons ok hread hit B' X' C' T' rfl (by ktr_room) (by ktr_units) S4' ?_
          clear S4 S4'
          rintro s5 t5 ⟨h5, tk5, tl5, tp5, tt5, tI5, rfl, F5, N5, hat5⟩
          refine F5.use fun m5 F6 => ?_
          clear F5
          dsimp only [lexM, lexO, rdM, rdP, lexD, strD, List.cons_append, List.nil_append] at N5
          rw [if_neg (by decide)] at N5
          dsimp only
          (repeat' (first | (k_unfold; (try dsimp only)) | (k_end; wrow_close) | ((((fail_if_success (with_reducible show wpAny _ _ (exec (Stmt.For _ _ _ _ _) _) _ _ _)); (fail_if_success (with_reducible show wpAny _ _ (exec (Stmt.While _ _ _ _) _) _ _ _)); (fail_if_success (with_reducible show Exists _)); (fail_if_success (with_reducible show wpAny _ _ (eval (Expr.ListComp _ _ _ _) _) _ _ _)); (fail_if_success (with_reducible show LCg.CompSrc _ _ _ _ _ _ _ _ _ _ _ _ _ _)); (fail_if_success (with_reducible show LCt.CompSrcT _ _ _ _ _ _ _ _ _ _ _ _ _ _ _)); (fail_if_success ((with_reducible refine stopAt ?gdK ?gdH); (case gdK => exact rfl))))); (try (rename News _ _ _ _ => nN; dsimp only at nN)); walk1) | ((((fail_if_success (with_reducible show wpAny _ _ (exec (Stmt.For _ _ _ _ _) _) _ _ _)); (fail_if_success (with_reducible show wpAny _ _ (exec (Stmt.While _ _ _ _) _) _ _ _)); (fail_if_success (with_reducible show Exists _)); (fail_if_success (with_reducible show wpAny _ _ (eval (Expr.ListComp _ _ _ _) _) _ _ _)); (fail_if_success (with_reducible show LCg.CompSrc _ _ _ _ _ _ _ _ _ _ _ _ _ _)); (fail_if_success (with_reducible show LCt.CompSrcT _ _ _ _ _ _ _ _ _ _ _ _ _ _ _)); (fail_if_success ((with_reducible refine stopAt ?gdK ?gdH); (case gdK => exact rfl))))); dsimp only; walk1) | (leave1; walk_say "STEP leave1"; try dsimp only) | fail "no step"))
          dsimp only
          rename News _ _ _ _ => NE
          rename Fr _ _ _ _ => FE
          refine kOut hIv ?_
          exact ⟨k' + 1, Nat.lt_succ_self _, k', pl4 + 1, tok ++ Str.ofString ".", rfl, rfl, Nat.le_of_succ_le hk4, (icast1 _ _).trans e4, by rw [ht, dots_snoc, nsub1 hk4], _, _, tl5, tp5, _, _, rfl, ⟨_, FE, rfl⟩, newsSub NE (by (first | exact subI | (((try dsimp only [lexM, lexO, rdM, rdP, lexD, strD, List.cons_append, List.nil_append])); first | walk_at "ALLIN" | walk_at "SUBALL"))), hat5⟩
        | zero =>
          have S4' : GSt w a s g' L' IT' MO kb tok line' pl4 (13 :: tail) s4 := S4
          refine next_cons ok hread hit B' X' C' T' rfl (by ktr_room) (by ktr_units) S4' ?_
          clear S4 S4'
          rintro s5 t5 ⟨h5, tk5, tl5, tp5, tt5, tI5, rfl, F5, N5, hat5⟩
          refine F5.use fun m5 F6 => ?_
          clear F5
          dsimp only [lexM, lexO, rdM, rdP, lexD, strD, List.cons_append, List.nil_append] at N5
          rw [if_neg (by decide)] at N5
          dsimp only
          (repeat' (first | (k_unfold; (try dsimp only)) | (k_end; wrow_close) | ((((fail_if_success (with_reducible show wpAny _ _ (exec (Stmt.For _ _ _ _ _) _) _ _ _)); (fail_if_success (with_reducible show wpAny _ _ (exec (Stmt.While _ _ _ _) _) _ _ _)); (fail_if_success (with_reducible show Exists _)); (fail_if_success (with_reducible show wpAny _ _ (eval (Expr.ListComp _ _ _ _) _) _ _ _)); (fail_if_success (with_reducible show LCg.CompSrc _ _ _ _ _ _ _ _ _ _ _ _ _ _)); (fail_if_success (with_reducible show LCt.CompSrcT _ _ _ _ _ _ _ _ _ _ _ _ _ _ _)); (fail_if_success ((with_reducible refine stopAt ?gdK ?gdH); (case gdK => exact rfl))))); (try (rename News _ _ _ _ => nN; dsimp only at nN)); walk1) | ((((fail_if_success (with_reducible show wpAny _ _ (exec (Stmt.For _ _ _ _ _) _) _ _ _)); (fail_if_success (with_reducible show wpAny _ _ (exec (Stmt.While _ _ _ _) _) _ _ _)); (fail_if_success (with_reducible show Exists _)); (fail_if_success (with_reducible show wpAny _ _ (eval (Expr.ListComp _ _ _ _) _) _ _ _)); (fail_if_success (with_reducible show LCg.CompSrc _ _ _ _ _ _ _ _ _ _ _ _ _ _)); (fail_if_success (with_reducible show LCt.CompSrcT _ _ _ _ _ _ _ _ _ _ _ _ _ _ _)); (fail_if_success ((with_reducible refine stopAt ?gdK ?gdH); (case gdK => exact rfl))))); dsimp only; walk1) | (leave1; walk_say "STEP leave1"; try dsimp only) | fail "no step"))
          rename News _ _ _ _ => NE
          refine' hret _ (lexM w a (line + j) tl5 [] kb (pl + j + d + 2) tp5) _ _ ?P1 (by assumption) ?N1 (Keep.fr Kg (by assumption)) (Fresh.same rfl)
          case P1 => exact ⟨tt5, tl5, tp5, by rw [ht]; rfl, rfl⟩
          case N1 =>
            rw [show line + j = line' by rw [← e1]; exact Int.add_zero _, icast3 e4]
            exact newsSub NE (by (first | exact subI | (((try dsimp only [lexM, lexO, rdM, rdP, lexD, strD, List.cons_append, List.nil_append])); first | walk_at "ALLIN" | walk_at "SUBALL")))

theorem get1_call (w : World) (a : LexA) (ok : a.Ok) (hread : ReadOk w a) (line : Int) (tl : Tok) (kb : Nat) (pl : Int) (tp : Tok) (j : Nat) (hat : At a.text pl (List.replicate j 10)) :
    Call w 6 300 (.ref 93) [.ref a.LX] (lexM w a line tl [] kb pl tp) (GP w a (line + j) kb (pl + j) (dots 0)) := by
  unfold Call
  intro p loose mean mg mb dp un gd cn cs b ccd cl outer A₀ base h₀ L m s Q E B F X C N T hcs hd hu hret
  dsimp only [lexM, lexO, rdM, rdP, lexD, strD, List.cons_append, List.nil_append] at N
  ((k_dflt (refine' code_defK ?k1 ?k2 ?k3 ?kC ?k4 ?k5 ?kA ?kF ?kK ?k6 ?k7 ?k8 ?k9 ?kB ?_ ?c2 ?c3 ?c4 ?c5; (case kA => exact rfl); (case kF => exact rfl); (case kK => assumption); (case k1 => k_asm); (case k2 => k_asm); (case k3 => k_asm); (case kC => k_asm); (case k4 => k_asm); (case k5 => k_asm); (case k6 => k_is); (case k7 => k_is); (case k8 => k_room); (case k9 => first | exact BindsTo.of_eq rfl | (refine' kp_binds ?kx ?ke; (case kx => k_in); (case ke => exact fun _ => rfl))); (case c5 => decide); (case kB => exact locs rfl); (case c2 => exact rfl); (case c3 => exact rfl); (case c4 => exact rfl); k_whole)))
  intro g' L' h' FG' F' N' B' X' T' C' Kg l1
  change Fr g' L' h' (fun y => List.lookup y [(Str.ofString "self", Value.ref a.LX)]) at F'
  (try dsimp only); (try k_fold)
  (repeat' (first | (k_unfold; (try dsimp only)) | (k_end; wrow_close) | ((((fail_if_success (with_reducible show wpAny _ _ (exec (Stmt.For _ _ _ _ _) _) _ _ _)); (fail_if_success (with_reducible show wpAny _ _ (exec (Stmt.While _ _ _ _) _) _ _ _)); (fail_if_success (with_reducible show Exists _)); (fail_if_success (with_reducible show wpAny _ _ (eval (Expr.ListComp _ _ _ _) _) _ _ _)); (fail_if_success (with_reducible show LCg.CompSrc _ _ _ _ _ _ _ _ _ _ _ _ _ _)); (fail_if_success (with_reducible show LCt.CompSrcT _ _ _ _ _ _ _ _ _ _ _ _ _ _ _)); (fail_if_success ((with_reducible refine stopAt ?gdK ?gdH); (case gdK => exact rfl))))); (try (rename News _ _ _ _ => nN; dsimp only at nN)); walk1) | ((((fail_if_success (with_reducible show wpAny _ _ (exec (Stmt.For _ _ _ _ _) _) _ _ _)); (fail_if_success (with_reducible show wpAny _ _ (exec (Stmt.While _ _ _ _) _) _ _ _)); (fail_if_success (with_reducible show Exists _)); (fail_if_success (with_reducible show wpAny _ _ (eval (Expr.ListComp _ _ _ _) _) _ _ _)); (fail_if_success (with_reducible show LCg.CompSrc _ _ _ _ _ _ _ _ _ _ _ _ _ _)); (fail_if_success (with_reducible show LCt.CompSrcT _ _ _ _ _ _ _ _ _ _ _ _ _ _ _)); (fail_if_success ((with_reducible refine stopAt ?gdK ?gdH); (case gdK => exact rfl))))); dsimp only; walk1) | (leave1; walk_say "STEP leave1"; try dsimp only) | fail "no step"))
  ((k_here; k_dflt (refine' iter2 ?k1 ?k2 ?k3 ?_; (case k1 => k_asm); (case k2 => k_asm); (case k3 => k_mem); k_whole); intro IT' h' F' N' l1; (try k_lt l1)))
  (repeat' (first | (k_unfold; (try dsimp only)) | (k_end; wrow_close) | ((((fail_if_success (with_reducible show wpAny _ _ (exec (Stmt.For _ _ _ _ _) _) _ _ _)); (fail_if_success (with_reducible show wpAny _ _ (exec (Stmt.While _ _ _ _) _) _ _ _)); (fail_if_success (with_reducible show Exists _)); (fail_if_success (with_reducible show wpAny _ _ (eval (Expr.ListComp _ _ _ _) _) _ _ _)); (fail_if_success (with_reducible show LCg.CompSrc _ _ _ _ _ _ _ _ _ _ _ _ _ _)); (fail_if_success (with_reducible show LCt.CompSrcT _ _ _ _ _ _ _ _ _ _ _ _ _ _ _)); (fail_if_success ((with_reducible refine stopAt ?gdK ?gdH); (case gdK => exact rfl))))); (try (rename News _ _ _ _ => nN; dsimp only at nN)); walk1) | ((((fail_if_success (with_reducible show wpAny _ _ (exec (Stmt.For _ _ _ _ _) _) _ _ _)); (fail_if_success (with_reducible show wpAny _ _ (exec (Stmt.While _ _ _ _) _) _ _ _)); (fail_if_success (with_reducible show Exists _)); (fail_if_success (with_reducible show wpAny _ _ (eval (Expr.ListComp _ _ _ _) _) _ _ _)); (fail_if_success (with_reducible show LCg.CompSrc _ _ _ _ _ _ _ _ _ _ _ _ _ _)); (fail_if_success (with_reducible show LCt.CompSrcT _ _ _ _ _ _ _ _ _ _ _ _ _ _ _)); (fail_if_success ((with_reducible refine stopAt ?gdK ?gdH); (case gdK => exact rfl))))); dsimp only; walk1) | (leave1; walk_say "STEP leave1"; try dsimp only) | fail "no step"))
  rename_i MO i1 i2 hh FF NN
  have hit : a.PB < MO ∧ MO < IT' := ⟨i2.lt (ixT 1 rfl), l1.lt (ixT 0 rfl)⟩
  refine for_invO (GI w a s g' L' IT' MO kb line pl j []) (fun Iv hIv => ?_) (fun Iv hIv => ?_)
  · walk1
    refine ci_pyIter NN (by k_mem) ?_
    refine kOut0 hIv ?_
    exact ⟨IT', j + 1, rfl, j, line, pl, rfl, rfl, rfl, rfl, _, _, tl, tp, _, _, rfl, ⟨_, FF, rfl⟩, newsSub NN (by (first | exact subI | (((try dsimp only [lexM, lexO, rdM, rdP, lexD, strD, List.cons_append, List.nil_append])); first | walk_at "ALLIN" | walk_at "SUBALL"))), by rw [List.append_nil]; exact hat⟩
  · clear FF NN
    rintro J n s2 ⟨j', line', pl', rfl, rfl, e1, e2, S⟩
    cases j' with
    | succ j' =>
      refine next_cons ok hread hit B' X' C' T' rfl (by ktr_room) (by ktr_units) S ?_
      rintro s3 t ⟨h3, tk3, tl3, tp3, tt3, tI3, rfl, F3, N3, hat3⟩
      refine F3.use fun m3 F4 => ?_
      clear F3
      dsimp only [lexM, lexO, rdM, rdP, lexD, strD, List.cons_append, List.nil_append] at N3
      rw [if_pos rfl] at N3
      dsimp only
      (repeat' (first | (k_unfold; (try dsimp only)) | (k_end; wrow_close) | ((((fail_if_success (with_reducible show wpAny _ _ (exec (Stmt.For _ _ _ _ _) _) _ _ _)); (fail_if_success (with_reducible show wpAny _ _ (exec (Stmt.While _ _ _ _) _) _ _ _)); (fail_if_success (with_reducible show Exists _)); (fail_if_success (with_reducible show wpAny _ _ (eval (Expr.ListComp _ _ _ _) _) _ _ _)); (fail_if_success (with_reducible show LCg.CompSrc _ _ _ _ _ _ _ _ _ _ _ _ _ _)); (fail_if_success (with_reducible show LCt.CompSrcT _ _ _ _ _ _ _ _ _ _ _ _ _ _ _)); (fail_if_success ((with_reducible refine stopAt ?gdK ?gdH); (case gdK => exact rfl))))); (try (rename News _ _ _ _ => nN; dsimp only at nN)); walk1) | ((((fail_if_success (with_reducible show wpAny _ _ (exec (Stmt.For _ _ _ _ _) _) _ _ _)); (fail_if_success (with_reducible show wpAny _ _ (exec (Stmt.While _ _ _ _) _) _ _ _)); (fail_if_success (with_reducible show Exists _)); (fail_if_success (with_reducible show wpAny _ _ (eval (Expr.ListComp _ _ _ _) _) _ _ _)); (fail_if_success (with_reducible show LCg.CompSrc _ _ _ _ _ _ _ _ _ _ _ _ _ _)); (fail_if_success (with_reducible show LCt.CompSrcT _ _ _ _ _ _ _ _ _ _ _ _ _ _ _)); (fail_if_success ((with_reducible refine stopAt ?gdK ?gdH); (case gdK => exact rfl))))); dsimp only; walk1) | (leave1; walk_say "STEP leave1"; try dsimp only) | fail "no step"))
      dsimp only
      rename News _ _ _ _ => NE
      rename Fr _ _ _ _ => FE
      refine kOut hIv ?_
      exact ⟨j' + 1, Nat.lt_succ_self _, j', line' + 1, pl' + 1, rfl, rfl, (icast1 _ _).trans e1, (icast1 _ _).trans e2, _, _, tl3, tp3, _, _, rfl, ⟨_, FE, rfl⟩, newsSub NE (by (first | exact subI | (((try dsimp only [lexM, lexO, rdM, rdP, lexD, strD, List.cons_append, List.nil_append])); first | walk_at "ALLIN" | walk_at "SUBALL"))), hat3⟩
    | zero =>
      refine next_nil ok hread hit B' X' C' T' rfl (by ktr_room) (by ktr_units) S ?_
      clear S
      rintro s3 ⟨h3, tk3, tl3, tp3, tt3, rfl, F3, N3⟩
      refine F3.use fun m3 F4 => ?_
      clear F3
      dsimp only [lexM, lexO, rdM, rdP, lexD, strD, List.cons_append, List.nil_append] at N3
      dsimp only
      (repeat' (first | (k_unfold; (try dsimp only)) | (k_end; wrow_close) | ((((fail_if_success (with_reducible show wpAny _ _ (exec (Stmt.For _ _ _ _ _) _) _ _ _)); (fail_if_success (with_reducible show wpAny _ _ (exec (Stmt.While _ _ _ _) _) _ _ _)); (fail_if_success (with_reducible show Exists _)); (fail_if_success (with_reducible show wpAny _ _ (eval (Expr.ListComp _ _ _ _) _) _ _ _)); (fail_if_success (with_reducible show LCg.CompSrc _ _ _ _ _ _ _ _ _ _ _ _ _ _)); (fail_if_success (with_reducible show LCt.CompSrcT _ _ _ _ _ _ _ _ _ _ _ _ _ _ _)); (fail_if_success ((with_reducible refine stopAt ?gdK ?gdH); (case gdK => exact rfl))))); (try (rename News _ _ _ _ => nN; dsimp only at nN)); walk1) | ((((fail_if_success (with_reducible show wpAny _ _ (exec (Stmt.For _ _ _ _ _) _) _ _ _)); (fail_if_success (with_reducible show wpAny _ _ (exec (Stmt.While _ _ _ _) _) _ _ _)); (fail_if_success (with_reducible show Exists _)); (fail_if_success (with_reducible show wpAny _ _ (eval (Expr.ListComp _ _ _ _) _) _ _ _)); (fail_if_success (with_reducible show LCg.CompSrc _ _ _ _ _ _ _ _ _ _ _ _ _ _)); (fail_if_success (with_reducible show LCt.CompSrcT _ _ _ _ _ _ _ _ _ _ _ _ _ _ _)); (fail_if_success ((with_reducible refine stopAt ?gdK ?gdH); (case gdK => exact rfl))))); dsimp only; walk1) | (leave1; walk_say "STEP leave1"; try dsimp only) | fail "no step"))
      rename News _ _ _ _ => NE
      refine' hret _ (lexM w a (line + j) tl3 [] kb (pl + j) tp3) _ _ ?P1 (by assumption) ?N1 (Keep.fr Kg (by assumption)) (Fresh.same rfl)
      case P1 => exact ⟨tt3, tl3, tp3, by rw [show dots 0 = Str.ofString "" from by decide], rfl⟩
      case N1 =>
        rw [show line + j = line' by rw [← e1]; exact Int.add_zero _, show pl + j = pl' by rw [← e2]; exact Int.add_zero _]
        exact newsSub NE (by (first | exact subI | (((try dsimp only [lexM, lexO, rdM, rdP, lexD, strD, List.cons_append, List.nil_append])); first | walk_at "ALLIN" | walk_at "SUBALL")))

theorem pop_call (w : World) (a : LexA) (ok : a.Ok) (v : Value) (line : Int) (tl : Tok) (pb : List Value) (kb : Nat) (pl : Int) (tp : Tok) (hp : pb.length < 1000) :
    Call w 2 100 (.ref 93) [.ref a.LX] (lexM w a line tl (v :: pb) kb pl tp) (fun r post => r = v ∧ post = lexM w a line tl pb (kb + 1) pl tp) := by
  unfold Call
  intro p loose mean mg mb dp un gd cn cs b ccd cl outer A₀ base h₀ L m s Q E B F X C N T hcs hd hu hret
  dsimp only [lexM, lexO, rdM, rdP, lexD, strD, List.cons_append, List.nil_append] at N
  ((k_dflt (refine' code_defK ?k1 ?k2 ?k3 ?kC ?k4 ?k5 ?kA ?kF ?kK ?k6 ?k7 ?k8 ?k9 ?kB ?_ ?c2 ?c3 ?c4 ?c5; (case kA => exact rfl); (case kF => exact rfl); (case kK => assumption); (case k1 => k_asm); (case k2 => k_asm); (case k3 => k_asm); (case kC => k_asm); (case k4 => k_asm); (case k5 => k_asm); (case k6 => k_is); (case k7 => k_is); (case k8 => k_room); (case k9 => first | exact BindsTo.of_eq rfl | (refine' kp_binds ?kx ?ke; (case kx => k_in); (case ke => exact fun _ => rfl))); (case c5 => decide); (case kB => exact locs rfl); (case c2 => exact rfl); (case c3 => exact rfl); (case c4 => exact rfl); k_whole)))
  intro g' L' h' FG' F' N' B' X' T' C' Kg l1
  change Fr g' L' h' (fun y => List.lookup y [(Str.ofString "self", Value.ref a.LX)]) at F'
  (try dsimp only); (try k_fold)
  (repeat' (first | (k_unfold; (try dsimp only)) | (k_end; wrow_close) | ((((fail_if_success (with_reducible show wpAny _ _ (exec (Stmt.For _ _ _ _ _) _) _ _ _)); (fail_if_success (with_reducible show wpAny _ _ (exec (Stmt.While _ _ _ _) _) _ _ _)); (fail_if_success (with_reducible show Exists _)); (fail_if_success (with_reducible show wpAny _ _ (eval (Expr.ListComp _ _ _ _) _) _ _ _)); (fail_if_success (with_reducible show LCg.CompSrc _ _ _ _ _ _ _ _ _ _ _ _ _ _)); (fail_if_success (with_reducible show LCt.CompSrcT _ _ _ _ _ _ _ _ _ _ _ _ _ _ _)); (fail_if_success ((with_reducible refine stopAt ?gdK ?gdH); (case gdK => exact rfl))))); (try (rename News _ _ _ _ => nN; dsimp only at nN)); walk1) | ((((fail_if_success (with_reducible show wpAny _ _ (exec (Stmt.For _ _ _ _ _) _) _ _ _)); (fail_if_success (with_reducible show wpAny _ _ (exec (Stmt.While _ _ _ _) _) _ _ _)); (fail_if_success (with_reducible show Exists _)); (fail_if_success (with_reducible show wpAny _ _ (eval (Expr.ListComp _ _ _ _) _) _ _ _)); (fail_if_success (with_reducible show LCg.CompSrc _ _ _ _ _ _ _ _ _ _ _ _ _ _)); (fail_if_success (with_reducible show LCt.CompSrcT _ _ _ _ _ _ _ _ _ _ _ _ _ _ _)); (fail_if_success ((with_reducible refine stopAt ?gdK ?gdH); (case gdK => exact rfl))))); dsimp only; walk1) | (leave1; walk_say "STEP leave1"; try dsimp only) | fail "no step"))
  ((k_here; k_dflt (refine' pop0L ?k1 ?k2 ?k3 ?k4 ?_; (case k1 => k_asm); (case k2 => k_asm); (case k3 => k_upd); (case k4 => first | assumption | (rw [sizeLine_eq]; omega)); k_whole); intro h' F' N'))
  (repeat' (first | (k_unfold; (try dsimp only)) | (k_end; wrow_close) | ((((fail_if_success (with_reducible show wpAny _ _ (exec (Stmt.For _ _ _ _ _) _) _ _ _)); (fail_if_success (with_reducible show wpAny _ _ (exec (Stmt.While _ _ _ _) _) _ _ _)); (fail_if_success (with_reducible show Exists _)); (fail_if_success (with_reducible show wpAny _ _ (eval (Expr.ListComp _ _ _ _) _) _ _ _)); (fail_if_success (with_reducible show LCg.CompSrc _ _ _ _ _ _ _ _ _ _ _ _ _ _)); (fail_if_success (with_reducible show LCt.CompSrcT _ _ _ _ _ _ _ _ _ _ _ _ _ _ _)); (fail_if_success ((with_reducible refine stopAt ?gdK ?gdH); (case gdK => exact rfl))))); (try (rename News _ _ _ _ => nN; dsimp only at nN)); walk1) | ((((fail_if_success (with_reducible show wpAny _ _ (exec (Stmt.For _ _ _ _ _) _) _ _ _)); (fail_if_success (with_reducible show wpAny _ _ (exec (Stmt.While _ _ _ _) _) _ _ _)); (fail_if_success (with_reducible show Exists _)); (fail_if_success (with_reducible show wpAny _ _ (eval (Expr.ListComp _ _ _ _) _) _ _ _)); (fail_if_success (with_reducible show LCg.CompSrc _ _ _ _ _ _ _ _ _ _ _ _ _ _)); (fail_if_success (with_reducible show LCt.CompSrcT _ _ _ _ _ _ _ _ _ _ _ _ _ _ _)); (fail_if_success ((with_reducible refine stopAt ?gdK ?gdH); (case gdK => exact rfl))))); dsimp only; walk1) | (leave1; walk_say "STEP leave1"; try dsimp only) | fail "no step"))
  rename News _ _ _ _ => NE
  exact hret _ _ _ _ ⟨rfl, rfl⟩ (by assumption) (newsSub NE (by (first | exact subI | (((try dsimp only [lexM, lexO, rdM, rdP, lexD, strD, List.cons_append, List.nil_append])); first | walk_at "ALLIN" | walk_at "SUBALL")))) (Keep.fr Kg (by assumption)) (Fresh.same rfl)
end Mine

-- part LL
namespace Mine
def tabFull (RC : Nat) : Array Value := #[rawInt 134, rawInt 4, .ref RC]
def readQual : Str := "_law_lexer.<locals>.read"
def CodeOk (oc : Obj) : Prop := ∃ vs t, oc.data = .fields vs ∧ vs[1]? = some (.str readQual t)
/-- a new lexer upon a text -/
inductive LexP (w : World) (text : Str) (TB : List (Addr × Obj)) (r : Value) (post : List (Addr × Obj)) : Prop
  | mk (a : LexA) (tl kb tp : Nat) (er : r = .ref a.LX) (ht : a.text = text) (ok : a.Ok) (hread : ReadOk w a) (h126 : 126 < a.CT) (hoc : CodeOk a.oc) (hTB : ∀ b ∈ TB.map (·.1), b = 126 ∨ b = a.RC)
    (ep : post = (126, tabObj (tabFull a.RC)) :: lexM w a 1 tl [] kb 0 tp)
theorem tb1 {o : Obj} {x : Nat} : ∀ b ∈ [((126 : Nat), o)].map (·.1), b = 126 ∨ b = x := fun _ hb => .inl (List.mem_singleton.mp hb)
theorem tb2 {o o' : Obj} {x : Nat} : ∀ b ∈ [((126 : Nat), o), (x, o')].map (·.1), b = 126 ∨ b = x := fun b hb => by simpa using hb
theorem lex1_call (w : World) (text : Str) (tt : Tok) (hlen : text.length < 1000000) :
    Call w 6 300 (.ref 131) [.str text tt] [(126, tabObj #[])] (LexP w text [(126, tabObj #[])]) := by
  unfold Call
  intro p loose mean mg mb dp un gd cn cs b ccd cl outer A₀ base h₀ L m s Q E B F X C N T hcs hd hu hret
  ((k_dflt (refine' code_defCK ?k1 ?k2 ?k3 ?kC ?k4 ?k5 ?kA ?kF ?kK ?k6 ?k7 ?k8 ?k9 ?kB ?kD ?_ ?c2 ?c3 ?c4; (case kA => exact rfl); (case kF => exact rfl); (case kK => assumption); (case k1 => k_asm); (case k2 => k_asm); (case k3 => k_asm); (case kC => k_asm); (case k4 => k_asm); (case k5 => k_asm); (case k6 => k_is); (case k7 => k_is); (case k8 => k_room); (case k9 => first | exact BindsTo.of_eq rfl | (refine' kp_binds ?kx ?ke; (case kx => k_in); (case ke => exact fun _ => rfl))); (case kB => exact rfl); (case kD => decide +kernel); (case c2 => exact rfl); (case c3 => exact rfl); (case c4 => exact rfl); k_whole)))
  intro g' L' h' tk' cells' FG' F' N' Y' B' X' T' C' Kg l1
  k_lt l1
  k_cells Y'
  simp only [List.cons_append, List.nil_append] at N'
  (try dsimp only); (try k_fold)
  (repeat' (first | (k_unfold; (try dsimp only)) | (k_end; wrow_close) | ((((fail_if_success (with_reducible show wpAny _ _ (exec (Stmt.For _ _ _ _ _) _) _ _ _)); (fail_if_success (with_reducible show wpAny _ _ (exec (Stmt.While _ _ _ _) _) _ _ _)); (fail_if_success (with_reducible show Exists _)); (fail_if_success (with_reducible show wpAny _ _ (eval (Expr.ListComp _ _ _ _) _) _ _ _)); (fail_if_success (with_reducible show LCg.CompSrc _ _ _ _ _ _ _ _ _ _ _ _ _ _)); (fail_if_success (with_reducible show LCt.CompSrcT _ _ _ _ _ _ _ _ _ _ _ _ _ _ _)); (fail_if_success ((with_reducible refine stopAt ?gdK ?gdH); (case gdK => exact rfl))))); (try (rename News _ _ _ _ => nN; dsimp only at nN)); walk1) | ((((fail_if_success (with_reducible show wpAny _ _ (exec (Stmt.For _ _ _ _ _) _) _ _ _)); (fail_if_success (with_reducible show wpAny _ _ (exec (Stmt.While _ _ _ _) _) _ _ _)); (fail_if_success (with_reducible show Exists _)); (fail_if_success (with_reducible show wpAny _ _ (eval (Expr.ListComp _ _ _ _) _) _ _ _)); (fail_if_success (with_reducible show LCg.CompSrc _ _ _ _ _ _ _ _ _ _ _ _ _ _)); (fail_if_success (with_reducible show LCt.CompSrcT _ _ _ _ _ _ _ _ _ _ _ _ _ _ _)); (fail_if_success ((with_reducible refine stopAt ?gdK ?gdH); (case gdK => exact rfl))))); dsimp only; walk1) | (leave1; walk_say "STEP leave1"; try dsimp only) | fail "no step"))
  rename News _ _ _ _ => NE
  refine' lexPack (w := w) (text := text) NE rfl ?ord ?rc ?hr ?k
  case ord => exact ⟨by walk_at "LT", by walk_at "LT", by walk_at "LT", by walk_at "LT", by walk_at "LT", by walk_at "LT", by walk_at "LT", by walk_at "LT", by walk_at "LT"⟩
  case rc => exact ⟨by first | exact .inl (by walk_at "LT") | exact .inr (by walk_at "LT"), by walk_at "LT"⟩
  case k =>
    rintro a ok hr rfl h1 h2 h3 h4 sub
    rw [← h3]
    have N9 := newsHead (newsSub NE sub) (o' := tabObj (tabFull a.RC)) (by rw [h2]; simp [tabFull])
    have Z9 : Fresh [(126, tabObj #[])] _ s.heap := Keep.fresh Kg (newsHead (newsSub (by assumption : News g' L' _ _) sub) (o' := tabObj (tabFull a.RC)) (by rw [h2]; simp [tabFull]))
    exact hret _ _ _ _ ⟨a, _, _, _, rfl, rfl, ok, hr, by rw [h1]; walk_at "LT", by rw [h4]; exact ⟨_, _, by assumption, by assumption⟩, tb1, rfl⟩ (by assumption) N9 (Keep.fr Kg (by assumption)) Z9
  case hr =>
    intro pl tp t1 h0 h1
    unfold Call
    intro p2 loose2 mean2 mg2 mb2 dp2 un2 gd2 cn2 cs2 b2 ccd2 cl2 outer2 A2 base2 h2 L2 m2 s2 Q2 E2 B2 F2 X2 C2 N2 T2 hcs2 hd2 hu2 hret2
    simp only [rdP] at N2
    ((k_dflt (refine' code_nestK ?k1 ?k2 ?k3 ?kC ?k4 ?k5 ?kA ?kF ?kK ?k6 ?k7 ?k8 ?k9 ?kB ?_ ?c2 ?c3 ?c4 ?c5; (case kA => exact rfl); (case kF => exact rfl); (case kK => assumption); (case k1 => assumption); (case k2 => assumption); (case k3 => assumption); (case kC => assumption); (case k4 => assumption); (case k5 => assumption); (case k6 => k_mem); (case k7 => exact codeRec_news (by assumption) (by k_mem) (by assumption) (by assumption)); (case k8 => k_room); (case k9 => exact BindsTo.of_eq rfl); (case c5 => decide); (case kB => exact locs rfl); (case c2 => exact rfl); (case c3 => exact rfl); (case c4 => exact rfl); k_whole)))
    intro g3 L3 h3 FG3 F3 N3 B3 X3 T3 C3 Kg3 l3
    (try dsimp only); (try k_fold)
    (repeat' (first | (k_unfold; (try dsimp only)) | (k_end; wrow_close) | ((((fail_if_success (with_reducible show wpAny _ _ (exec (Stmt.For _ _ _ _ _) _) _ _ _)); (fail_if_success (with_reducible show wpAny _ _ (exec (Stmt.While _ _ _ _) _) _ _ _)); (fail_if_success (with_reducible show Exists _)); (fail_if_success (with_reducible show wpAny _ _ (eval (Expr.ListComp _ _ _ _) _) _ _ _)); (fail_if_success (with_reducible show LCg.CompSrc _ _ _ _ _ _ _ _ _ _ _ _ _ _)); (fail_if_success (with_reducible show LCt.CompSrcT _ _ _ _ _ _ _ _ _ _ _ _ _ _ _)); (fail_if_success ((with_reducible refine stopAt ?gdK ?gdH); (case gdK => exact rfl))))); (try (rename News _ _ _ _ => nN; dsimp only at nN)); walk1) | ((((fail_if_success (with_reducible show wpAny _ _ (exec (Stmt.For _ _ _ _ _) _) _ _ _)); (fail_if_success (with_reducible show wpAny _ _ (exec (Stmt.While _ _ _ _) _) _ _ _)); (fail_if_success (with_reducible show Exists _)); (fail_if_success (with_reducible show wpAny _ _ (eval (Expr.ListComp _ _ _ _) _) _ _ _)); (fail_if_success (with_reducible show LCg.CompSrc _ _ _ _ _ _ _ _ _ _ _ _ _ _)); (fail_if_success (with_reducible show LCt.CompSrcT _ _ _ _ _ _ _ _ _ _ _ _ _ _ _)); (fail_if_success ((with_reducible refine stopAt ?gdK ?gdH); (case gdK => exact rfl))))); dsimp only; walk1) | (leave1; walk_say "STEP leave1"; try dsimp only) | fail "no step"))
    rename News _ _ _ _ => NE2
    exact hret2 _ _ _ _ ⟨_, _, rfl, rfl⟩ (by assumption) NE2 (Keep.fr Kg3 (by assumption)) (Fresh.same rfl)
end Mine

-- part LL2
namespace Mine
theorem lex2_call (w : World) (text : Str) (tt : Tok) (RC : Nat) (oc : Obj) (hoc : CodeOk oc) (hRC : RC ≠ 126) (hlen : text.length < 1000000) :
    Call w 6 300 (.ref 131) [.str text tt] [(126, tabObj (tabFull RC)), (RC, oc)] (LexP w text [(126, tabObj (tabFull RC)), (RC, oc)]) := by
  unfold Call
  intro p loose mean mg mb dp un gd cn cs b ccd cl outer A₀ base h₀ L m s Q E B F X C N T hcs hd hu hret
  have hoc' := hoc
  obtain ⟨vsC, tC, hv1, hv2⟩ := hoc
  dsimp only [tabFull] at N
  ((k_dflt (refine' code_defCK ?k1 ?k2 ?k3 ?kC ?k4 ?k5 ?kA ?kF ?kK ?k6 ?k7 ?k8 ?k9 ?kB ?kD ?_ ?c2 ?c3 ?c4; (case kA => exact rfl); (case kF => exact rfl); (case kK => assumption); (case k1 => k_asm); (case k2 => k_asm); (case k3 => k_asm); (case kC => k_asm); (case k4 => k_asm); (case k5 => k_asm); (case k6 => k_is); (case k7 => k_is); (case k8 => k_room); (case k9 => first | exact BindsTo.of_eq rfl | (refine' kp_binds ?kx ?ke; (case kx => k_in); (case ke => exact fun _ => rfl))); (case kB => exact rfl); (case kD => decide +kernel); (case c2 => exact rfl); (case c3 => exact rfl); (case c4 => exact rfl); k_whole)))
  intro g' L' h' tk' cells' FG' F' N' Y' B' X' T' C' Kg l1
  k_lt l1
  k_cells Y'
  simp only [List.cons_append, List.nil_append] at N'
  (try dsimp only); (try k_fold)
  (repeat' (first | (k_unfold; (try dsimp only)) | (k_end; wrow_close) | ((((fail_if_success (with_reducible show wpAny _ _ (exec (Stmt.For _ _ _ _ _) _) _ _ _)); (fail_if_success (with_reducible show wpAny _ _ (exec (Stmt.While _ _ _ _) _) _ _ _)); (fail_if_success (with_reducible show Exists _)); (fail_if_success (with_reducible show wpAny _ _ (eval (Expr.ListComp _ _ _ _) _) _ _ _)); (fail_if_success (with_reducible show LCg.CompSrc _ _ _ _ _ _ _ _ _ _ _ _ _ _)); (fail_if_success (with_reducible show LCt.CompSrcT _ _ _ _ _ _ _ _ _ _ _ _ _ _ _)); (fail_if_success ((with_reducible refine stopAt ?gdK ?gdH); (case gdK => exact rfl))))); (try (rename News _ _ _ _ => nN; dsimp only at nN)); walk1) | ((((fail_if_success (with_reducible show wpAny _ _ (exec (Stmt.For _ _ _ _ _) _) _ _ _)); (fail_if_success (with_reducible show wpAny _ _ (exec (Stmt.While _ _ _ _) _) _ _ _)); (fail_if_success (with_reducible show Exists _)); (fail_if_success (with_reducible show wpAny _ _ (eval (Expr.ListComp _ _ _ _) _) _ _ _)); (fail_if_success (with_reducible show LCg.CompSrc _ _ _ _ _ _ _ _ _ _ _ _ _ _)); (fail_if_success (with_reducible show LCt.CompSrcT _ _ _ _ _ _ _ _ _ _ _ _ _ _ _)); (fail_if_success ((with_reducible refine stopAt ?gdK ?gdH); (case gdK => exact rfl))))); dsimp only; walk1) | (leave1; walk_say "STEP leave1"; try dsimp only) | fail "no step"))
  rename News _ _ _ _ => NE
  refine' lexPack2 (w := w) (text := text) NE rfl ?ord ?rc ?hr ?k
  case ord => exact ⟨by walk_at "LT", by walk_at "LT", by walk_at "LT", by walk_at "LT", by walk_at "LT", by walk_at "LT", by walk_at "LT", by walk_at "LT", by walk_at "LT"⟩
  case rc => exact ⟨by first | exact .inl (by walk_at "LT") | exact .inr (by walk_at "LT"), by walk_at "LT"⟩
  case k =>
    rintro a ok hr rfl h1 h2 h3 h4 sub
    rw [← h3]
    have N9 := newsHead (newsSub NE sub) (o' := tabObj (tabFull a.RC)) (by rw [h2]; simp [tabFull])
    have Z9 : Fresh [(126, tabObj (tabFull RC)), (RC, oc)] _ s.heap := Keep.fresh Kg (newsHead (newsSub (by assumption : News g' L' _ _) sub) (o' := tabObj (tabFull a.RC)) (by rw [h2]; simp [tabFull]))
    exact hret _ _ _ _ ⟨a, _, _, _, rfl, rfl, ok, hr, by rw [h1]; walk_at "LT", h4 ▸ hoc', h2 ▸ tb2, rfl⟩ (by assumption) N9 (Keep.fr Kg (by assumption)) Z9
  case hr =>
    intro pl tp t1 h0 h1
    unfold Call
    intro p2 loose2 mean2 mg2 mb2 dp2 un2 gd2 cn2 cs2 b2 ccd2 cl2 outer2 A2 base2 h2 L2 m2 s2 Q2 E2 B2 F2 X2 C2 N2 T2 hcs2 hd2 hu2 hret2
    simp only [rdP] at N2
    ((k_dflt (refine' code_nestK ?k1 ?k2 ?k3 ?kC ?k4 ?k5 ?kA ?kF ?kK ?k6 ?k7 ?k8 ?k9 ?kB ?_ ?c2 ?c3 ?c4 ?c5; (case kA => exact rfl); (case kF => exact rfl); (case kK => assumption); (case k1 => assumption); (case k2 => assumption); (case k3 => assumption); (case kC => assumption); (case k4 => assumption); (case k5 => assumption); (case k6 => k_mem); (case k7 => exact codeRec_news (by assumption) (by k_mem) (by assumption) (by assumption)); (case k8 => k_room); (case k9 => exact BindsTo.of_eq rfl); (case c5 => decide); (case kB => exact locs rfl); (case c2 => exact rfl); (case c3 => exact rfl); (case c4 => exact rfl); k_whole)))
    intro g3 L3 h3 FG3 F3 N3 B3 X3 T3 C3 Kg3 l3
    (try dsimp only); (try k_fold)
    (repeat' (first | (k_unfold; (try dsimp only)) | (k_end; wrow_close) | ((((fail_if_success (with_reducible show wpAny _ _ (exec (Stmt.For _ _ _ _ _) _) _ _ _)); (fail_if_success (with_reducible show wpAny _ _ (exec (Stmt.While _ _ _ _) _) _ _ _)); (fail_if_success (with_reducible show Exists _)); (fail_if_success (with_reducible show wpAny _ _ (eval (Expr.ListComp _ _ _ _) _) _ _ _)); (fail_if_success (with_reducible show LCg.CompSrc _ _ _ _ _ _ _ _ _ _ _ _ _ _)); (fail_if_success (with_reducible show LCt.CompSrcT _ _ _ _ _ _ _ _ _ _ _ _ _ _ _)); (fail_if_success ((with_reducible refine stopAt ?gdK ?gdH); (case gdK => exact rfl))))); (try (rename News _ _ _ _ => nN; dsimp only at nN)); walk1) | ((((fail_if_success (with_reducible show wpAny _ _ (exec (Stmt.For _ _ _ _ _) _) _ _ _)); (fail_if_success (with_reducible show wpAny _ _ (exec (Stmt.While _ _ _ _) _) _ _ _)); (fail_if_success (with_reducible show Exists _)); (fail_if_success (with_reducible show wpAny _ _ (eval (Expr.ListComp _ _ _ _) _) _ _ _)); (fail_if_success (with_reducible show LCg.CompSrc _ _ _ _ _ _ _ _ _ _ _ _ _ _)); (fail_if_success (with_reducible show LCt.CompSrcT _ _ _ _ _ _ _ _ _ _ _ _ _ _ _)); (fail_if_success ((with_reducible refine stopAt ?gdK ?gdH); (case gdK => exact rfl))))); dsimp only; walk1) | (leave1; walk_say "STEP leave1"; try dsimp only) | fail "no step"))
    rename News _ _ _ _ => NE2
    exact hret2 _ _ _ _ ⟨_, _, rfl, rfl⟩ (by assumption) NE2 (Keep.fr Kg3 (by assumption)) (Fresh.same rfl)
end Mine

-- part Bis
namespace Mine
/-- where a bisection from the left ends -/
def LeftOf (ns : List Int) (x : Int) (k : Nat) : Prop := k ≤ ns.length ∧ (∀ i (h : i < ns.length), i < k → ns[i] < x) ∧ ∀ i (h : i < ns.length), k ≤ i → x ≤ ns[i]
theorem sorted_le {ns : List Int} (hs : ns.Pairwise (· ≤ ·)) {i j : Nat} (hj : j < ns.length) (h : i ≤ j) : ns[i]'(Nat.lt_of_le_of_lt h hj) ≤ ns[j] := by
  rcases Nat.lt_or_eq_of_le h with h | h
  · exact List.pairwise_iff_getElem.mp hs i j _ hj h
  · subst h; exact Int.le_refl _
theorem getD_at {ns : List Int} {m : Nat} (h : m < ns.length) : ns.getD m 0 = ns[m] := by simp [List.getD_eq_getElem?_getD, h]
theorem left_up {ns : List Int} {x m : Int} (hs : ns.Pairwise (· ≤ ·)) (h0 : 0 ≤ m) (hm : m < ns.length) (h : ns.getD m.toNat 0 < x) : ∀ i (_ : i < ns.length), (i : Int) < m + 1 → ns[i] < x := by
  intro i hi hlt
  have hm' : m.toNat < ns.length := by omega
  rw [getD_at hm'] at h
  exact Int.lt_of_le_of_lt (sorted_le hs hm' (by omega)) h
theorem left_dn {ns : List Int} {x m : Int} (hs : ns.Pairwise (· ≤ ·)) (h0 : 0 ≤ m) (hm : m < ns.length) (h : ¬ ns.getD m.toNat 0 < x) : ∀ i (_ : i < ns.length), m ≤ (i : Int) → x ≤ ns[i] := by
  intro i hi hlt
  have hm' : m.toNat < ns.length := by omega
  rw [getD_at hm'] at h
  exact Int.le_trans (Int.not_lt.mp h) (sorted_le hs hi (by omega))
theorem mid_is {lo hi : Int} : (lo + hi).fdiv 2 = (lo + hi) / 2 := Int.fdiv_eq_ediv_of_nonneg _ (by decide)
/-- a moment within a bisection: all ahead of lo satisfy R, all from hi on satisfy S -/
inductive BI (R S : Int → Prop) (s : Shared) (g : Heap) (L : Addr) (FL : Nat) (vs : List Value) (ns : List Int) (kf : Nat) (x : Int) (tx : Tok) (n : Nat) (s1 : Shared) : Prop
  | mk (h1 : Heap) (tk1 t1 t2 : Nat) (lo hi : Int) (e : s1 = { s with heap := h1, toks := tk1 }) (F : FrAt g L h1 [("a", .ref FL), ("x", .int x tx), ("lo", .int lo t1), ("hi", .int hi t2)])
    (N : News g L h1 [(FL, W.listOf vs.toArray kf)]) (l0 : 0 ≤ lo) (l2 : lo ≤ hi) (l3 : hi ≤ ns.length) (en : n = (hi - lo).toNat) (a1 : ∀ i (h : i < ns.length), (i : Int) < lo → R ns[i]) (a2 : ∀ i (h : i < ns.length), hi ≤ (i : Int) → S ns[i])
theorem bis_mid {lo hi : Int} {n : Nat} (h0 : 0 ≤ lo) (h : lo < hi) (h3 : hi ≤ n) : 0 ≤ (lo + hi).fdiv 2 ∧ (lo + hi).fdiv 2 < n ∧ lo ≤ (lo + hi).fdiv 2 ∧ (lo + hi).fdiv 2 < hi := by
  rw [mid_is]; omega
theorem bis_up {lo hi m : Int} {n : Nat} (h0 : 0 ≤ lo) (h3 : hi ≤ n) (h : 0 ≤ m ∧ m < n ∧ lo ≤ m ∧ m < hi) : (hi - (m + 1)).toNat < (hi - lo).toNat ∧ 0 ≤ m + 1 ∧ m + 1 ≤ hi := by omega
theorem bis_dn {lo hi m : Int} {n : Nat} (h0 : 0 ≤ lo) (h3 : hi ≤ n) (h : 0 ≤ m ∧ m < n ∧ lo ≤ m ∧ m < hi) : (m - lo).toNat < (hi - lo).toNat ∧ m ≤ n := by omega
inductive BiP (R : Nat → Prop) (FL : Nat) (vs : List Value) (kf : Nat) (r : Value) (post : List (Addr × Obj)) : Prop
  | mk (k : Nat) (t : Tok) (er : r = .int (k : Nat) t) (hk : R k) (ep : post = [(FL, W.listOf vs.toArray kf)])
theorem bis_end {lo hi : Int} {n : Nat} (h0 : 0 ≤ lo) (h2 : lo ≤ hi) (h3 : hi ≤ n) (h : ¬ lo < hi) : lo = (lo.toNat : Int) ∧ lo.toNat ≤ n ∧ hi = lo := by omega
theorem ltI {a : Int} {i : Nat} (h0 : 0 ≤ a) (h : i < a.toNat) : (i : Int) < a := by omega
theorem leI {a : Int} {i : Nat} (h0 : 0 ≤ a) (h : a.toNat ≤ i) : a ≤ (i : Int) := by omega
theorem bis0 (n : Nat) : n = ((n : Int) - 0).toNat := by omega
theorem noLt {i : Nat} {P : Prop} (h : (i : Int) < 0) : P := by omega
theorem noGe {n i : Nat} {P : Prop} (h : i < n) (h' : (n : Int) ≤ i) : P := by omega
theorem bl_call (w : World) (FL : Nat) (vs : List Value) (ns : List Int) (kf : Nat) (x : Int) (tx : Tok) (hi : IntsAre vs ns) (hs : ns.Pairwise (· ≤ ·)) (hl : ns.length < 1000) :
    Call w 2 100 (.ref 58) [.ref FL, .int x tx] [(FL, W.listOf vs.toArray kf)] (BiP (LeftOf ns x) FL vs kf) := by
  unfold Call
  intro p loose mean mg mb dp un gd cn cs b ccd cl outer A₀ base h₀ L m s Q E B F X C N T hcs hd hu hret
  ((k_dflt (refine' code_defK ?k1 ?k2 ?k3 ?kC ?k4 ?k5 ?kA ?kF ?kK ?k6 ?k7 ?k8 ?k9 ?kB ?_ ?c2 ?c3 ?c4 ?c5; (case kA => exact rfl); (case kF => exact rfl); (case kK => assumption); (case k1 => k_asm); (case k2 => k_asm); (case k3 => k_asm); (case kC => k_asm); (case k4 => k_asm); (case k5 => k_asm); (case k6 => k_is); (case k7 => k_is); (case k8 => k_room); (case k9 => first | exact BindsTo.of_eq rfl | (refine' kp_binds ?kx ?ke; (case kx => k_in); (case ke => exact fun _ => rfl))); (case c5 => decide); (case kB => exact locs rfl); (case c2 => exact rfl); (case c3 => exact rfl); (case c4 => exact rfl); k_whole)))
  intro g' L' h' FG' F' N' B' X' T' C' Kg l1
  change Fr g' L' h' (fun y => List.lookup y [(Str.ofString "key", Value.none), (Str.ofString "hi", Value.none), (Str.ofString "lo", Value.int 0 311), (Str.ofString "x", Value.int x tx), (Str.ofString "a", Value.ref FL)]) at F'
  (try dsimp only); (try k_fold)
  (repeat' (first | (k_unfold; (try dsimp only)) | (k_end; wrow_close) | ((((fail_if_success (with_reducible show wpAny _ _ (exec (Stmt.For _ _ _ _ _) _) _ _ _)); (fail_if_success (with_reducible show wpAny _ _ (exec (Stmt.While _ _ _ _) _) _ _ _)); (fail_if_success (with_reducible show Exists _)); (fail_if_success (with_reducible show wpAny _ _ (eval (Expr.ListComp _ _ _ _) _) _ _ _)); (fail_if_success (with_reducible show LCg.CompSrc _ _ _ _ _ _ _ _ _ _ _ _ _ _)); (fail_if_success (with_reducible show LCt.CompSrcT _ _ _ _ _ _ _ _ _ _ _ _ _ _ _)); (fail_if_success ((with_reducible refine stopAt ?gdK ?gdH); (case gdK => exact rfl))))); (try (rename News _ _ _ _ => nN; dsimp only at nN)); walk1) | ((((fail_if_success (with_reducible show wpAny _ _ (exec (Stmt.For _ _ _ _ _) _) _ _ _)); (fail_if_success (with_reducible show wpAny _ _ (exec (Stmt.While _ _ _ _) _) _ _ _)); (fail_if_success (with_reducible show Exists _)); (fail_if_success (with_reducible show wpAny _ _ (eval (Expr.ListComp _ _ _ _) _) _ _ _)); (fail_if_success (with_reducible show LCg.CompSrc _ _ _ _ _ _ _ _ _ _ _ _ _ _)); (fail_if_success (with_reducible show LCt.CompSrcT _ _ _ _ _ _ _ _ _ _ _ _ _ _ _)); (fail_if_success ((with_reducible refine stopAt ?gdK ?gdH); (case gdK => exact rfl))))); dsimp only; walk1) | (leave1; walk_say "STEP leave1"; try dsimp only) | fail "no step"))
  rename News _ _ _ _ => NN
  rename Fr _ _ _ _ => FF
  refine while_invO (BI (· < x) (x ≤ ·) s g' L' FL vs ns kf x tx) ns.length ?_ (fun Iv hIv => ?_)
  · exact ⟨_, _, _, _, 0, ns.length, rfl, ⟨_, FF, rfl⟩, NN, Int.le_refl _, Int.natCast_nonneg _, Int.le_refl _, bis0 _, fun i h hh => noLt hh, fun i h hh => noGe h hh⟩
  · clear NN FF
    rintro n s1 ⟨h1, tk1, t1, t2, lo, hi', rfl, F1, N1, l0, l2, l3, rfl, a1, a2⟩
    refine F1.use fun m1 F2 => ?_
    clear F1
    (repeat' (first | (k_unfold; (try dsimp only)) | (k_end; wrow_close) | ((((fail_if_success (with_reducible show wpAny _ _ (exec (Stmt.For _ _ _ _ _) _) _ _ _)); (fail_if_success (with_reducible show wpAny _ _ (exec (Stmt.While _ _ _ _) _) _ _ _)); (fail_if_success (with_reducible show Exists _)); (fail_if_success (with_reducible show wpAny _ _ (eval (Expr.ListComp _ _ _ _) _) _ _ _)); (fail_if_success (with_reducible show LCg.CompSrc _ _ _ _ _ _ _ _ _ _ _ _ _ _)); (fail_if_success (with_reducible show LCt.CompSrcT _ _ _ _ _ _ _ _ _ _ _ _ _ _ _)); (fail_if_success ((with_reducible refine stopAt ?gdK ?gdH); (case gdK => exact rfl))))); (try (rename News _ _ _ _ => nN; dsimp only at nN)); walk1) | ((((fail_if_success (with_reducible show wpAny _ _ (exec (Stmt.For _ _ _ _ _) _) _ _ _)); (fail_if_success (with_reducible show wpAny _ _ (exec (Stmt.While _ _ _ _) _) _ _ _)); (fail_if_success (with_reducible show Exists _)); (fail_if_success (with_reducible show wpAny _ _ (eval (Expr.ListComp _ _ _ _) _) _ _ _)); (fail_if_success (with_reducible show LCg.CompSrc _ _ _ _ _ _ _ _ _ _ _ _ _ _)); (fail_if_success (with_reducible show LCt.CompSrcT _ _ _ _ _ _ _ _ _ _ _ _ _ _ _)); (fail_if_success ((with_reducible refine stopAt ?gdK ?gdH); (case gdK => exact rfl))))); dsimp only; walk1) | (leave1; walk_say "STEP leave1"; try dsimp only) | fail "no step"))
    · rename News _ _ _ _ => NE
      rename Fr _ _ _ _ => FE
      rename (_ < x) => hx
      rename (lo < hi') => hlh
      have hm := bis_mid l0 hlh l3
      have hu := bis_up l0 l3 hm
      refine kOutW hIv ?_
      exact ⟨_, hu.1, _, _, _, _, _, _, rfl, ⟨_, FE, rfl⟩, NE, hu.2.1, hu.2.2, l3, rfl, left_up hs hm.1 hm.2.1 hx, a2⟩
    · rename News _ _ _ _ => NE
      rename Fr _ _ _ _ => FE
      rename (¬ (_ < x)) => hx
      rename (lo < hi') => hlh
      have hm := bis_mid l0 hlh l3
      have hu := bis_dn l0 l3 hm
      refine kOutW hIv ?_
      exact ⟨_, hu.1, _, _, _, _, _, _, rfl, ⟨_, FE, rfl⟩, NE, l0, hm.2.2.1, hu.2, rfl, a1, left_dn hs hm.1 hm.2.1 hx⟩
    · rename News _ _ _ _ => NE
      rename (¬ (lo < hi')) => hlh
      obtain ⟨e1, e2, rfl⟩ := bis_end l0 l2 l3 hlh
      refine hret _ _ _ _ ⟨hi'.toNat, t1, by rw [← e1], ⟨e2, fun i h hh => a1 i h (ltI l0 hh), fun i h hh => a2 i h (leI l0 hh)⟩, rfl⟩ (by assumption) NE (Keep.fr Kg (by assumption)) (Fresh.same rfl)
end Mine

-- part Bis2
namespace Mine
/-- where a bisection from the right ends -/
def RightOf (ns : List Int) (x : Int) (k : Nat) : Prop := k ≤ ns.length ∧ (∀ i (h : i < ns.length), i < k → ns[i] ≤ x) ∧ ∀ i (h : i < ns.length), k ≤ i → x < ns[i]
theorem right_up {ns : List Int} {x m : Int} (hs : ns.Pairwise (· ≤ ·)) (h0 : 0 ≤ m) (hm : m < ns.length) (h : ¬ x < ns.getD m.toNat 0) : ∀ i (_ : i < ns.length), (i : Int) < m + 1 → ns[i] ≤ x := by
  intro i hi hlt
  have hm' : m.toNat < ns.length := by omega
  rw [getD_at hm'] at h
  exact Int.le_trans (sorted_le hs hm' (by omega)) (Int.not_lt.mp h)
theorem right_dn {ns : List Int} {x m : Int} (hs : ns.Pairwise (· ≤ ·)) (h0 : 0 ≤ m) (hm : m < ns.length) (h : x < ns.getD m.toNat 0) : ∀ i (_ : i < ns.length), m ≤ (i : Int) → x < ns[i] := by
  intro i hi hlt
  have hm' : m.toNat < ns.length := by omega
  rw [getD_at hm'] at h
  exact Int.lt_of_lt_of_le h (sorted_le hs hi (by omega))
theorem br_call (w : World) (FL : Nat) (vs : List Value) (ns : List Int) (kf : Nat) (x : Int) (tx t0 : Tok) (hi : IntsAre vs ns) (hs : ns.Pairwise (· ≤ ·)) (hl : ns.length < 1000) :
    Call w 2 100 (.ref 49) [.ref FL, .int x tx, .int 0 t0, .none] [(FL, W.listOf vs.toArray kf)] (BiP (RightOf ns x) FL vs kf) := by
  unfold Call
  intro p loose mean mg mb dp un gd cn cs b ccd cl outer A₀ base h₀ L m s Q E B F X C N T hcs hd hu hret
  ((k_dflt (refine' code_defK ?k1 ?k2 ?k3 ?kC ?k4 ?k5 ?kA ?kF ?kK ?k6 ?k7 ?k8 ?k9 ?kB ?_ ?c2 ?c3 ?c4 ?c5; (case kA => exact rfl); (case kF => exact rfl); (case kK => assumption); (case k1 => k_asm); (case k2 => k_asm); (case k3 => k_asm); (case kC => k_asm); (case k4 => k_asm); (case k5 => k_asm); (case k6 => k_is); (case k7 => k_is); (case k8 => k_room); (case k9 => first | exact BindsTo.of_eq rfl | (refine' kp_binds ?kx ?ke; (case kx => k_in); (case ke => exact fun _ => rfl))); (case c5 => decide); (case kB => exact locs rfl); (case c2 => exact rfl); (case c3 => exact rfl); (case c4 => exact rfl); k_whole)))
  intro g' L' h' FG' F' N' B' X' T' C' Kg l1
  change Fr g' L' h' (fun y => List.lookup y [(Str.ofString "key", Value.none), (Str.ofString "hi", Value.none), (Str.ofString "lo", Value.int 0 t0), (Str.ofString "x", Value.int x tx), (Str.ofString "a", Value.ref FL)]) at F'
  (try dsimp only); (try k_fold)
  (repeat' (first | (k_unfold; (try dsimp only)) | (k_end; wrow_close) | ((((fail_if_success (with_reducible show wpAny _ _ (exec (Stmt.For _ _ _ _ _) _) _ _ _)); (fail_if_success (with_reducible show wpAny _ _ (exec (Stmt.While _ _ _ _) _) _ _ _)); (fail_if_success (with_reducible show Exists _)); (fail_if_success (with_reducible show wpAny _ _ (eval (Expr.ListComp _ _ _ _) _) _ _ _)); (fail_if_success (with_reducible show LCg.CompSrc _ _ _ _ _ _ _ _ _ _ _ _ _ _)); (fail_if_success (with_reducible show LCt.CompSrcT _ _ _ _ _ _ _ _ _ _ _ _ _ _ _)); (fail_if_success ((with_reducible refine stopAt ?gdK ?gdH); (case gdK => exact rfl))))); (try (rename News _ _ _ _ => nN; dsimp only at nN)); walk1) | ((((fail_if_success (with_reducible show wpAny _ _ (exec (Stmt.For _ _ _ _ _) _) _ _ _)); (fail_if_success (with_reducible show wpAny _ _ (exec (Stmt.While _ _ _ _) _) _ _ _)); (fail_if_success (with_reducible show Exists _)); (fail_if_success (with_reducible show wpAny _ _ (eval (Expr.ListComp _ _ _ _) _) _ _ _)); (fail_if_success (with_reducible show LCg.CompSrc _ _ _ _ _ _ _ _ _ _ _ _ _ _)); (fail_if_success (with_reducible show LCt.CompSrcT _ _ _ _ _ _ _ _ _ _ _ _ _ _ _)); (fail_if_success ((with_reducible refine stopAt ?gdK ?gdH); (case gdK => exact rfl))))); dsimp only; walk1) | (leave1; walk_say "STEP leave1"; try dsimp only) | fail "no step"))
  rename News _ _ _ _ => NN
  rename Fr _ _ _ _ => FF
  refine while_invO (BI (· ≤ x) (x < ·) s g' L' FL vs ns kf x tx) ns.length ?_ (fun Iv hIv => ?_)
  · exact ⟨_, _, _, _, 0, ns.length, rfl, ⟨_, FF, rfl⟩, NN, Int.le_refl _, Int.natCast_nonneg _, Int.le_refl _, bis0 _, fun i h hh => noLt hh, fun i h hh => noGe h hh⟩
  · clear NN FF
    rintro n s1 ⟨h1, tk1, t1, t2, lo, hi', rfl, F1, N1, l0, l2, l3, rfl, a1, a2⟩
    refine F1.use fun m1 F2 => ?_
    clear F1
    (repeat' (first | (k_unfold; (try dsimp only)) | (k_end; wrow_close) | ((((fail_if_success (with_reducible show wpAny _ _ (exec (Stmt.For _ _ _ _ _) _) _ _ _)); (fail_if_success (with_reducible show wpAny _ _ (exec (Stmt.While _ _ _ _) _) _ _ _)); (fail_if_success (with_reducible show Exists _)); (fail_if_success (with_reducible show wpAny _ _ (eval (Expr.ListComp _ _ _ _) _) _ _ _)); (fail_if_success (with_reducible show LCg.CompSrc _ _ _ _ _ _ _ _ _ _ _ _ _ _)); (fail_if_success (with_reducible show LCt.CompSrcT _ _ _ _ _ _ _ _ _ _ _ _ _ _ _)); (fail_if_success ((with_reducible refine stopAt ?gdK ?gdH); (case gdK => exact rfl))))); (try (rename News _ _ _ _ => nN; dsimp only at nN)); walk1) | ((((fail_if_success (with_reducible show wpAny _ _ (exec (Stmt.For _ _ _ _ _) _) _ _ _)); (fail_if_success (with_reducible show wpAny _ _ (exec (Stmt.While _ _ _ _) _) _ _ _)); (fail_if_success (with_reducible show Exists _)); (fail_if_success (with_reducible show wpAny _ _ (eval (Expr.ListComp _ _ _ _) _) _ _ _)); (fail_if_success (with_reducible show LCg.CompSrc _ _ _ _ _ _ _ _ _ _ _ _ _ _)); (fail_if_success (with_reducible show LCt.CompSrcT _ _ _ _ _ _ _ _ _ _ _ _ _ _ _)); (fail_if_success ((with_reducible refine stopAt ?gdK ?gdH); (case gdK => exact rfl))))); dsimp only; walk1) | (leave1; walk_say "STEP leave1"; try dsimp only) | fail "no step"))
    · rename News _ _ _ _ => NE
      rename Fr _ _ _ _ => FE
      rename (x < _) => hx
      rename (lo < hi') => hlh
      have hm := bis_mid l0 hlh l3
      have hu := bis_dn l0 l3 hm
      refine kOutW hIv ?_
      exact ⟨_, hu.1, _, _, _, _, _, _, rfl, ⟨_, FE, rfl⟩, NE, l0, hm.2.2.1, hu.2, rfl, a1, right_dn hs hm.1 hm.2.1 hx⟩
    · rename News _ _ _ _ => NE
      rename Fr _ _ _ _ => FE
      rename (¬ (x < _)) => hx
      rename (lo < hi') => hlh
      have hm := bis_mid l0 hlh l3
      have hu := bis_up l0 l3 hm
      refine kOutW hIv ?_
      exact ⟨_, hu.1, _, _, _, _, _, _, rfl, ⟨_, FE, rfl⟩, NE, hu.2.1, hu.2.2, l3, rfl, right_up hs hm.1 hm.2.1 hx, a2⟩
    · rename News _ _ _ _ => NE
      rename (¬ (lo < hi')) => hlh
      obtain ⟨e1, e2, rfl⟩ := bis_end l0 l2 l3 hlh
      refine hret _ _ _ _ ⟨hi'.toNat, t1, by rw [← e1], ⟨e2, fun i h hh => a1 i h (ltI l0 hh), fun i h hh => a2 i h (leI l0 hh)⟩, rfl⟩ (by assumption) NE (Keep.fr Kg (by assumption)) (Fresh.same rfl)

theorem intsApp {vs ws : List Value} {ns ms : List Int} (h : IntsAre vs ns) (h' : IntsAre ws ms) : IntsAre (vs ++ ws) (ns ++ ms) := by
  induction h with
  | nil => exact h'
  | cons i t _ ih => exact .cons i t ih
theorem intsTake {vs : List Value} {ns : List Int} (h : IntsAre vs ns) : ∀ k, IntsAre (vs.take k) (ns.take k) ∧ IntsAre (vs.drop k) (ns.drop k) := by
  induction h with
  | nil => intro k; simp; exact .nil
  | cons i t h ih =>
    intro k
    cases k with
    | zero => exact ⟨.nil, .cons i t h⟩
    | succ k => exact ⟨.cons i t (ih k).1, (ih k).2⟩
theorem intsIns {vs : List Value} {ns : List Int} (h : IntsAre vs ns) (k : Nat) (x : Int) (t : Tok) : IntsAre (vs.take k ++ Value.int x t :: vs.drop k) (ns.take k ++ x :: ns.drop k) :=
  intsApp (intsTake h k).1 (.cons x t (intsTake h k).2)
inductive InP (FL : Nat) (ns : List Int) (x : Int) (kf : Nat) (r : Value) (post : List (Addr × Obj)) : Prop
  | mk (er : r = .none) (k : Nat) (vs' : List Value) (hk : RightOf ns x k) (hi : IntsAre vs' (ns.take k ++ x :: ns.drop k)) (ep : post = [(FL, W.listOf vs'.toArray (kf + 1))])
theorem ins_call (w : World) (FL : Nat) (vs : List Value) (ns : List Int) (kf : Nat) (x : Int) (tx : Tok) (hi : IntsAre vs ns) (hs : ns.Pairwise (· ≤ ·)) (hl : ns.length < 1000) :
    Call w 4 200 (.ref 40) [.ref FL, .int x tx] [(FL, W.listOf vs.toArray kf)] (InP FL ns x kf) := by
  unfold Call
  intro p loose mean mg mb dp un gd cn cs b ccd cl outer A₀ base h₀ L m s Q E B F X C N T hcs hd hu hret
  ((k_dflt (refine' code_defK ?k1 ?k2 ?k3 ?kC ?k4 ?k5 ?kA ?kF ?kK ?k6 ?k7 ?k8 ?k9 ?kB ?_ ?c2 ?c3 ?c4 ?c5; (case kA => exact rfl); (case kF => exact rfl); (case kK => assumption); (case k1 => k_asm); (case k2 => k_asm); (case k3 => k_asm); (case kC => k_asm); (case k4 => k_asm); (case k5 => k_asm); (case k6 => k_is); (case k7 => k_is); (case k8 => k_room); (case k9 => first | exact BindsTo.of_eq rfl | (refine' kp_binds ?kx ?ke; (case kx => k_in); (case ke => exact fun _ => rfl))); (case c5 => decide); (case kB => exact locs rfl); (case c2 => exact rfl); (case c3 => exact rfl); (case c4 => exact rfl); k_whole)))
  intro g' L' h' FG' F' N' B' X' T' C' Kg l1
  change Fr g' L' h' (fun y => List.lookup y [(Str.ofString "key", Value.none), (Str.ofString "hi", Value.none), (Str.ofString "lo", Value.int 0 284), (Str.ofString "x", Value.int x tx), (Str.ofString "a", Value.ref FL)]) at F'
  (try dsimp only); (try k_fold)
  (repeat' (first | (k_unfold; (try dsimp only)) | (k_end; wrow_close) | ((((fail_if_success (with_reducible show wpAny _ _ (exec (Stmt.For _ _ _ _ _) _) _ _ _)); (fail_if_success (with_reducible show wpAny _ _ (exec (Stmt.While _ _ _ _) _) _ _ _)); (fail_if_success (with_reducible show Exists _)); (fail_if_success (with_reducible show wpAny _ _ (eval (Expr.ListComp _ _ _ _) _) _ _ _)); (fail_if_success (with_reducible show LCg.CompSrc _ _ _ _ _ _ _ _ _ _ _ _ _ _)); (fail_if_success (with_reducible show LCt.CompSrcT _ _ _ _ _ _ _ _ _ _ _ _ _ _ _)); (fail_if_success ((with_reducible refine stopAt ?gdK ?gdH); (case gdK => exact rfl))))); (try (rename News _ _ _ _ => nN; dsimp only at nN)); walk1) | ((((fail_if_success (with_reducible show wpAny _ _ (exec (Stmt.For _ _ _ _ _) _) _ _ _)); (fail_if_success (with_reducible show wpAny _ _ (exec (Stmt.While _ _ _ _) _) _ _ _)); (fail_if_success (with_reducible show Exists _)); (fail_if_success (with_reducible show wpAny _ _ (eval (Expr.ListComp _ _ _ _) _) _ _ _)); (fail_if_success (with_reducible show LCg.CompSrc _ _ _ _ _ _ _ _ _ _ _ _ _ _)); (fail_if_success (with_reducible show LCt.CompSrcT _ _ _ _ _ _ _ _ _ _ _ _ _ _ _)); (fail_if_success ((with_reducible refine stopAt ?gdK ?gdH); (case gdK => exact rfl))))); dsimp only; walk1) | (leave1; walk_say "STEP leave1"; try dsimp only) | fail "no step"))
  refine' Call.use (br_call w FL vs ns kf x tx _ hi hs hl) (rest := []) ?B ?F ?X ?C ?N ?T ?hs ?hr ?ho ?hk ?hd ?hu ?_
  (((case B => assumption); (case F => assumption); (case X => assumption); (case C => assumption); (case N => assumption); (case T => assumption); (case hs => (first | exact subI | (((try dsimp only [lexM, lexO, rdM, rdP, lexD, strD, List.cons_append, List.nil_append])); first | walk_at "ALLIN" | walk_at "SUBALL"))); (case hr => (first | exact subI | (((try dsimp only [lexM, lexO, rdM, rdP, lexD, strD, List.cons_append, List.nil_append])); first | walk_at "ALLIN" | walk_at "SUBALL"))); (case ho => first | walk_at "OFF" | (((try dsimp only [lexM, lexO, rdM, rdP, lexD, strD, List.cons_append, List.nil_append])); walk_at "OFF")); (case hk => first | exact rfl | assumption); (case hd => ktr_room); (case hu => ktr_units)))
  rintro _ _ h2 tk2 ⟨k, t, rfl, hk, rfl⟩ F2 N2 K2 Z2
  have hkl : k ≤ vs.length := by rw [hi.length]; exact hk.1
  have hvl : vs.length < 1000 := by rw [hi.length]; exact hl
  simp only [List.cons_append, List.nil_append] at N2
  (try dsimp only); (try k_fold)
  (repeat' (first | (k_unfold; (try dsimp only)) | (k_end; wrow_close) | ((((fail_if_success (with_reducible show wpAny _ _ (exec (Stmt.For _ _ _ _ _) _) _ _ _)); (fail_if_success (with_reducible show wpAny _ _ (exec (Stmt.While _ _ _ _) _) _ _ _)); (fail_if_success (with_reducible show Exists _)); (fail_if_success (with_reducible show wpAny _ _ (eval (Expr.ListComp _ _ _ _) _) _ _ _)); (fail_if_success (with_reducible show LCg.CompSrc _ _ _ _ _ _ _ _ _ _ _ _ _ _)); (fail_if_success (with_reducible show LCt.CompSrcT _ _ _ _ _ _ _ _ _ _ _ _ _ _ _)); (fail_if_success ((with_reducible refine stopAt ?gdK ?gdH); (case gdK => exact rfl))))); (try (rename News _ _ _ _ => nN; dsimp only at nN)); walk1) | ((((fail_if_success (with_reducible show wpAny _ _ (exec (Stmt.For _ _ _ _ _) _) _ _ _)); (fail_if_success (with_reducible show wpAny _ _ (exec (Stmt.While _ _ _ _) _) _ _ _)); (fail_if_success (with_reducible show Exists _)); (fail_if_success (with_reducible show wpAny _ _ (eval (Expr.ListComp _ _ _ _) _) _ _ _)); (fail_if_success (with_reducible show LCg.CompSrc _ _ _ _ _ _ _ _ _ _ _ _ _ _)); (fail_if_success (with_reducible show LCt.CompSrcT _ _ _ _ _ _ _ _ _ _ _ _ _ _ _)); (fail_if_success ((with_reducible refine stopAt ?gdK ?gdH); (case gdK => exact rfl))))); dsimp only; walk1) | (leave1; walk_say "STEP leave1"; try dsimp only) | fail "no step"))
  ((k_here; k_dflt (refine' insertL ?k1 ?k2 ?k5 ?k3 ?k4 ?_; (case k1 => k_asm); (case k2 => k_asm); (case k3 => k_upd); (case k4 => first | assumption | omega); (case k5 => first | assumption | omega); k_whole); intro h' F' N'))
  (repeat' (first | (k_unfold; (try dsimp only)) | (k_end; wrow_close) | ((((fail_if_success (with_reducible show wpAny _ _ (exec (Stmt.For _ _ _ _ _) _) _ _ _)); (fail_if_success (with_reducible show wpAny _ _ (exec (Stmt.While _ _ _ _) _) _ _ _)); (fail_if_success (with_reducible show Exists _)); (fail_if_success (with_reducible show wpAny _ _ (eval (Expr.ListComp _ _ _ _) _) _ _ _)); (fail_if_success (with_reducible show LCg.CompSrc _ _ _ _ _ _ _ _ _ _ _ _ _ _)); (fail_if_success (with_reducible show LCt.CompSrcT _ _ _ _ _ _ _ _ _ _ _ _ _ _ _)); (fail_if_success ((with_reducible refine stopAt ?gdK ?gdH); (case gdK => exact rfl))))); (try (rename News _ _ _ _ => nN; dsimp only at nN)); walk1) | ((((fail_if_success (with_reducible show wpAny _ _ (exec (Stmt.For _ _ _ _ _) _) _ _ _)); (fail_if_success (with_reducible show wpAny _ _ (exec (Stmt.While _ _ _ _) _) _ _ _)); (fail_if_success (with_reducible show Exists _)); (fail_if_success (with_reducible show wpAny _ _ (eval (Expr.ListComp _ _ _ _) _) _ _ _)); (fail_if_success (with_reducible show LCg.CompSrc _ _ _ _ _ _ _ _ _ _ _ _ _ _)); (fail_if_success (with_reducible show LCt.CompSrcT _ _ _ _ _ _ _ _ _ _ _ _ _ _ _)); (fail_if_success ((with_reducible refine stopAt ?gdK ?gdH); (case gdK => exact rfl))))); dsimp only; walk1) | (leave1; walk_say "STEP leave1"; try dsimp only) | fail "no step"))
  rename News _ _ _ _ => NE
  refine hret _ _ _ _ ⟨rfl, k, vs.take k ++ Value.int x tx :: vs.drop k, hk, ?_, rfl⟩ (by assumption) NE (Keep.fr Kg (by assumption)) (Fresh.same rfl)
  exact intsIns hi k x tx
end Mine

-- part Drv
namespace Mine
/-- the rows that wait: dots, one more than the wish -/
inductive RowsAre : List Value → List Nat → Prop
  | nil : RowsAre [] []
  | cons {vs : List Value} {qs : List Nat} (q : Nat) (t : Tok) (h : RowsAre vs qs) : RowsAre (.str (dots (q + 1)) t :: vs) (q :: qs)
theorem RowsAre.snoc {vs : List Value} {qs : List Nat} (h : RowsAre vs qs) (q : Nat) (t : Tok) : RowsAre (vs ++ [.str (dots (q + 1)) t]) (qs ++ [q]) := by
  induction h with
  | nil => exact .cons q t .nil
  | cons q' t' _ ih => exact .cons q' t' ih
theorem RowsAre.length {vs : List Value} {qs : List Nat} (h : RowsAre vs qs) : vs.length = qs.length := by
  induction h with
  | nil => rfl
  | cons q' t' _ ih => simp [ih]
/-- the row at hand, and those behind it -/
def Row (rv : Value) (pb : List Value) (qq : List Nat) : Prop := match qq with
  | [] => pb = [] ∧ ∃ t, rv = .str (dots 0) t
  | q :: qs => RowsAre pb qs ∧ ∃ t, rv = .str (dots (q + 1)) t
inductive RowP (w : World) (a : LexA) (line : Int) (qs : List Nat) (pl : Int) (r : Value) (post : List (Addr × Obj)) : Prop
  | mk (pb' : List Value) (tl' kb' tp' : Nat) (hr : Row r pb' qs) (ep : post = lexM w a line tl' pb' kb' pl tp')
inductive PuP (w : World) (a : LexA) (line : Int) (tl : Nat) (qs : List Nat) (pl : Int) (tp : Nat) (r : Value) (post : List (Addr × Obj)) : Prop
  | mk (er : r = .none) (kb' : Nat) (pb' : List Value) (hr : RowsAre pb' qs) (ep : post = lexM w a line tl pb' kb' pl tp)
theorem row_call (w : World) (a : LexA) (ok : a.Ok) (hread : ReadOk w a) (line : Int) (tl : Tok) (pb : List Value) (qs : List Nat) (kb : Nat) (pl : Int) (tp : Tok) (hat : At a.text pl []) (hpb : RowsAre pb qs) (hl : qs.length < 900) :
    Call w 6 300 (.ref 93) [.ref a.LX] (lexM w a line tl pb kb pl tp) (RowP w a line qs pl) := by
  cases hpb with
  | nil =>
    refine (get1_call w a ok hread line tl kb pl tp 0 hat).mono ?_
    rintro v post ⟨t, tl', tp', rfl, rfl⟩
    exact ⟨[], tl', kb, tp', ⟨rfl, t, rfl⟩, by simp⟩
  | cons q t h =>
    refine ((pop_call w a ok _ line tl _ kb pl tp (by have := h.length; simp at hl; omega)).wider (by omega) (by omega)).mono ?_
    rintro v post ⟨rfl, rfl⟩
    exact ⟨_, tl, kb + 1, tp, ⟨h, t, rfl⟩, rfl⟩
theorem push1_call (w : World) (a : LexA) (ok : a.Ok) (x : Str) (q : Nat) (hx : x = dots (q + 1)) (t : Tok) (line : Int) (tl : Tok) (pb : List Value) (qs : List Nat) (kb : Nat) (pl : Int) (tp : Tok) (hr : RowsAre pb qs) (hp : qs.length < 1000) :
    Call w 2 100 (.ref 100) [.ref a.LX, .str x t] (lexM w a line tl pb kb pl tp) (PuP w a line tl (qs ++ [q]) pl tp) := by
  subst hx
  refine (push_call w a ok _ line tl pb kb pl tp (by rw [hr.length]; exact hp)).mono ?_
  rintro v post ⟨rfl, kb', rfl⟩
  exact ⟨rfl, kb', _, hr.snoc q t, rfl⟩
/-- what a queue may yet ask: a pushed row is asked once more -/
def muQ : List Nat → Nat
  | [] => 0
  | q :: qs => (if q = 0 then 1 else 2) + muQ qs
theorem muQ_snoc (qs : List Nat) : muQ (qs ++ [0]) = muQ qs + 1 := by
  induction qs with
  | nil => rfl
  | cons q qs ih => simp only [List.cons_append, muQ, ih]; omega
section
variable {prog : Program} {w : World} {A A₀ : Around} {E : Value → Shared → Prop} {s : Shared}
theorem lenS {x : Str} {t : Tok} {k : Int} {Q : Value → Shared → Prop} (hx : (x.length : Int) = k) (hz : k < 2 ^ 62) (h : Q (.int k (s.toks + 1)) { s with toks := s.toks + 1 + 1 }) : wpAny (model prog w) A (call (.builtin "len") [.str x t]) Q E s := by
  subst hx
  exact P.len_str (by omega) h
end
theorem intsSplit {vs : List Value} {ns : List Int} (h : IntsAre vs ns) : ∀ k, k < ns.length → ∃ p v t q P R, vs = p ++ Value.int v t :: q ∧ ns = P ++ v :: R ∧ p.length = k ∧ P.length = k ∧ IntsAre p P ∧ IntsAre q R := by
  induction h with
  | nil => intro k hk; simp at hk
  | cons i t h ih =>
    intro k hk
    cases k with
    | zero => exact ⟨[], i, t, _, [], _, rfl, rfl, rfl, rfl, .nil, h⟩
    | succ k =>
      obtain ⟨p, v, t', q, P, R, rfl, rfl, h1, h2, h3, h4⟩ := ih k (by simpa using hk)
      exact ⟨_ :: p, v, t', q, _ :: P, R, rfl, rfl, by simp [h1], by simp [h2], .cons i t h3, h4⟩
inductive DvP (w : World) (a : LexA) (line pl : Int) (J : List Nat → List Int → Int → Prop) (r : Value) (post : List (Addr × Obj)) : Prop
  | mk (T FL : Nat) (vs : List Value) (f : List Int) (far : Int) (tf kf tl' kb' tp' : Nat) (er : r = .ref T) (hj : J [] f far) (hi : IntsAre vs f)
    (ep : post = (T, ({ cls := .type "tuple", data := .seq #[.ref FL, .int far tf] } : Obj)) :: (FL, W.listOf vs.toArray kf) :: lexM w a line tl' [] kb' pl tp')
/-- a moment within the drive -/
inductive DvI (w : World) (a : LexA) (line pl : Int) (Z : Int) (tz : Nat) (J : List Nat → List Int → Int → Prop) (s : Shared) (g : Heap) (L D1 : Nat) (n : Nat) (s1 : Shared) : Prop
  | mk (h1 : Heap) (tk1 : Nat) (qq : List Nat) (rv1 : Value) (pb1 vs2 : List Value) (f : List Int) (far : Int) (tf kf tl1 kb1 tp1 : Nat) (e : s1 = { s with heap := h1, toks := tk1 })
    (F : FrAt g L h1 [("lexer", .ref a.LX), ("size", .int Z tz), ("free", .ref D1), ("far", .int far tf), ("row", rv1)]) (N : News g L h1 ((D1, W.listOf vs2.toArray kf) :: lexM w a line tl1 pb1 kb1 pl tp1))
    (hr1 : Row rv1 pb1 qq) (hI : IntsAre vs2 f) (hj : J qq f far) (en : n = muQ qq)
theorem muQ_up {q : Nat} {qs : List Nat} (h : q ≠ 0) : muQ (qs ++ [0]) < muQ (q :: qs) := by
  rw [muQ_snoc]; simp only [muQ]; rw [if_neg h]; omega
theorem muQ_dn {q : Nat} {qs : List Nat} : muQ qs < muQ (q :: qs) := by
  simp only [muQ]; split <;> omega
theorem dots_wish {x : Str} {q : Nat} {Z : Int} (hx : (x.length : Int) = (q : Int) + 1) (hZ : 0 ≤ Z) : ((x.length : Int) - 1).fmod Z = (q : Int) % Z := by
  rw [hx, show (q : Int) + 1 - 1 = q by omega, Int.fmod_eq_emod_of_nonneg _ hZ]
theorem dots_ne (q : Nat) : (dots (q + 1) != Str.ofString "") = true := by
  rw [bne_iff_ne]; intro e; have := congrArg Str.length e; rw [dots_length, show (Str.ofString "").length = 0 by decide] at this; omega
theorem dots_len (q : Nat) : ((dots (q + 1)).length : Int) = (q : Int) + 1 := by rw [dots_length]; omega
theorem some_ne {f : List Int} (h : 0 < f.length) : decide (f = []) = false := by
  rw [decide_eq_false_iff_not]; rintro rfl; simp at h
theorem wish_rg (q : Nat) {Z : Int} (h : 2 ≤ Z ∧ Z < 100) : 0 ≤ (q : Int) % Z ∧ (q : Int) % Z < 100 := ⟨Int.emod_nonneg _ (by omega), by have := Int.emod_lt_of_pos (q : Int) (show 0 < Z by omega); omega⟩
theorem drive_call (w : World) (a : LexA) (ok : a.Ok) (hread : ReadOk w a) (Z : Int) (tz : Tok) (hZ : 2 ≤ Z ∧ Z < 100) (J : List Nat → List Int → Int → Prop)
    (line : Int) (tl : Tok) (pb : List Value) (qs : List Nat) (kb : Nat) (pl : Int) (tp : Tok) (hat : At a.text pl []) (hpb : RowsAre pb qs) (hJ0 : J qs (rangeKs 0 (Z - 0).toNat) 0)
    (hJ : ∀ q qs f far, J (q :: qs) f far → q < 900 ∧ qs.length < 800 ∧ f.Pairwise (· ≤ ·) ∧ 0 < f.length ∧ f.length < 900 ∧ 0 ≤ far ∧ far < 100000 ∧ ∀ k, LeftOf f ((q : Int) % Z) k → (k = f.length → q ≠ 0 ∧ J (qs ++ [0]) f (far + Z - (q : Int) % Z)) ∧ ∀ p v r, f = p ++ v :: r → p.length = k → J qs (p ++ r) (far + v - (q : Int) % Z)) :
    Call w 8 400 (.ref 145) [.ref a.LX, .int Z tz] (lexM w a line tl pb kb pl tp) (DvP w a line pl J) := by
  unfold Call
  intro p loose mean mg mb dp un gd cn cs b ccd cl outer A₀ base h₀ L m s Q E B F X C N T hcs hd hu hret
  have hl8 : qs.length < 900 := by
    cases qs with
    | nil => simp
    | cons q qs => have := (hJ _ _ _ _ hJ0).2.1; simp; omega
  have hZ0 : 0 ≤ Z := Int.le_trans (by decide) hZ.1
  dsimp only [lexM, lexO, rdM, rdP, lexD, strD, List.cons_append, List.nil_append] at N
  ((k_dflt (refine' code_defK ?k1 ?k2 ?k3 ?kC ?k4 ?k5 ?kA ?kF ?kK ?k6 ?k7 ?k8 ?k9 ?kB ?_ ?c2 ?c3 ?c4 ?c5; (case kA => exact rfl); (case kF => exact rfl); (case kK => assumption); (case k1 => k_asm); (case k2 => k_asm); (case k3 => k_asm); (case kC => k_asm); (case k4 => k_asm); (case k5 => k_asm); (case k6 => k_is); (case k7 => k_is); (case k8 => k_room); (case k9 => first | exact BindsTo.of_eq rfl | (refine' kp_binds ?kx ?ke; (case kx => k_in); (case ke => exact fun _ => rfl))); (case c5 => decide); (case kB => exact locs rfl); (case c2 => exact rfl); (case c3 => exact rfl); (case c4 => exact rfl); k_whole)))
  intro g' L' h' FG' F' N' B' X' T' C' Kg l1
  change Fr g' L' h' (fun y => List.lookup y [(Str.ofString "size", Value.int Z tz), (Str.ofString "lexer", Value.ref a.LX)]) at F'
  (try dsimp only); (try k_fold)
  (repeat' (first | (k_unfold; (try dsimp only)) | (k_end; wrow_close) | ((((fail_if_success (with_reducible show wpAny _ _ (exec (Stmt.For _ _ _ _ _) _) _ _ _)); (fail_if_success (with_reducible show wpAny _ _ (exec (Stmt.While _ _ _ _) _) _ _ _)); (fail_if_success (with_reducible show Exists _)); (fail_if_success (with_reducible show wpAny _ _ (eval (Expr.ListComp _ _ _ _) _) _ _ _)); (fail_if_success (with_reducible show LCg.CompSrc _ _ _ _ _ _ _ _ _ _ _ _ _ _)); (fail_if_success (with_reducible show LCt.CompSrcT _ _ _ _ _ _ _ _ _ _ _ _ _ _ _)); (fail_if_success ((with_reducible refine stopAt ?gdK ?gdH); (case gdK => exact rfl))))); (try (rename News _ _ _ _ => nN; dsimp only at nN)); walk1) | ((((fail_if_success (with_reducible show wpAny _ _ (exec (Stmt.For _ _ _ _ _) _) _ _ _)); (fail_if_success (with_reducible show wpAny _ _ (exec (Stmt.While _ _ _ _) _) _ _ _)); (fail_if_success (with_reducible show Exists _)); (fail_if_success (with_reducible show wpAny _ _ (eval (Expr.ListComp _ _ _ _) _) _ _ _)); (fail_if_success (with_reducible show LCg.CompSrc _ _ _ _ _ _ _ _ _ _ _ _ _ _)); (fail_if_success (with_reducible show LCt.CompSrcT _ _ _ _ _ _ _ _ _ _ _ _ _ _ _)); (fail_if_success ((with_reducible refine stopAt ?gdK ?gdH); (case gdK => exact rfl))))); dsimp only; walk1) | (leave1; walk_say "STEP leave1"; try dsimp only) | fail "no step"))
  rename_i D1 vs1 c1 _ _ HI1 lt1 _ _ FF NN
  refine' Call.use (row_call w a ok hread line tl pb qs kb pl tp hat hpb hl8) (rest := [(D1, W.listOf vs1.toArray c1)]) ?B ?F ?X ?C ?N ?T ?hs ?hr ?ho ?hk ?hd ?hu ?_
  (((case B => assumption); (case F => assumption); (case X => assumption); (case C => assumption); (case N => assumption); (case T => assumption); (case hs => (first | exact subI | (((try dsimp only [lexM, lexO, rdM, rdP, lexD, strD, List.cons_append, List.nil_append])); first | walk_at "ALLIN" | walk_at "SUBALL"))); (case hr => (first | exact subI | (((try dsimp only [lexM, lexO, rdM, rdP, lexD, strD, List.cons_append, List.nil_append])); first | walk_at "ALLIN" | walk_at "SUBALL"))); (case ho => first | walk_at "OFF" | (((try dsimp only [lexM, lexO, rdM, rdP, lexD, strD, List.cons_append, List.nil_append])); walk_at "OFF")); (case hk => first | exact rfl | assumption); (case hd => ktr_room); (case hu => ktr_units)))
  rintro rv _ h2 tk2 ⟨pb2, tl2, kb2, tp2, hrow, rfl⟩ F2 N2 K2 Z2
  clear NN FF
  dsimp only [lexM, lexO, rdM, rdP, lexD, strD, List.cons_append, List.nil_append] at N2
  (try dsimp only); (try k_fold)
  (repeat' (first | (k_unfold; (try dsimp only)) | (k_end; wrow_close) | ((((fail_if_success (with_reducible show wpAny _ _ (exec (Stmt.For _ _ _ _ _) _) _ _ _)); (fail_if_success (with_reducible show wpAny _ _ (exec (Stmt.While _ _ _ _) _) _ _ _)); (fail_if_success (with_reducible show Exists _)); (fail_if_success (with_reducible show wpAny _ _ (eval (Expr.ListComp _ _ _ _) _) _ _ _)); (fail_if_success (with_reducible show LCg.CompSrc _ _ _ _ _ _ _ _ _ _ _ _ _ _)); (fail_if_success (with_reducible show LCt.CompSrcT _ _ _ _ _ _ _ _ _ _ _ _ _ _ _)); (fail_if_success ((with_reducible refine stopAt ?gdK ?gdH); (case gdK => exact rfl))))); (try (rename News _ _ _ _ => nN; dsimp only at nN)); walk1) | ((((fail_if_success (with_reducible show wpAny _ _ (exec (Stmt.For _ _ _ _ _) _) _ _ _)); (fail_if_success (with_reducible show wpAny _ _ (exec (Stmt.While _ _ _ _) _) _ _ _)); (fail_if_success (with_reducible show Exists _)); (fail_if_success (with_reducible show wpAny _ _ (eval (Expr.ListComp _ _ _ _) _) _ _ _)); (fail_if_success (with_reducible show LCg.CompSrc _ _ _ _ _ _ _ _ _ _ _ _ _ _)); (fail_if_success (with_reducible show LCt.CompSrcT _ _ _ _ _ _ _ _ _ _ _ _ _ _ _)); (fail_if_success ((with_reducible refine stopAt ?gdK ?gdH); (case gdK => exact rfl))))); dsimp only; walk1) | (leave1; walk_say "STEP leave1"; try dsimp only) | fail "no step"))
  rename News _ _ _ _ => NN
  rename Fr _ _ _ _ => FF
  refine while_invO (DvI w a line pl Z tz J s g' L' D1) (muQ qs) ?_ (fun Iv hIv => ?_)
  · exact ⟨_, _, qs, rv, pb2, vs1, _, 0, _, c1, tl2, kb2, tp2, rfl, ⟨_, FF, rfl⟩, newsSub NN (by (first | exact subI | (((try dsimp only [lexM, lexO, rdM, rdP, lexD, strD, List.cons_append, List.nil_append])); first | walk_at "ALLIN" | walk_at "SUBALL"))), hrow, HI1, hJ0, rfl⟩
  · clear NN FF Z2
    rintro n s1 ⟨h1, tk1, qq, rv1, pb1, vs2, f, far, tf, kf, tl1, kb1, tp1, rfl, F1, N1, hr1, hI, hj, rfl⟩
    refine F1.use fun m1 F2 => ?_
    clear F1
    cases qq with
    | nil =>
      obtain ⟨rfl, t, rfl⟩ := hr1
      rw [show dots 0 = Str.ofString "" by decide] at *
      dsimp only [lexM, lexO, rdM, rdP, lexD, strD, List.cons_append, List.nil_append] at N1
      (repeat' (first | (k_unfold; (try dsimp only)) | (k_end; wrow_close) | ((((fail_if_success (with_reducible show wpAny _ _ (exec (Stmt.For _ _ _ _ _) _) _ _ _)); (fail_if_success (with_reducible show wpAny _ _ (exec (Stmt.While _ _ _ _) _) _ _ _)); (fail_if_success (with_reducible show Exists _)); (fail_if_success (with_reducible show wpAny _ _ (eval (Expr.ListComp _ _ _ _) _) _ _ _)); (fail_if_success (with_reducible show LCg.CompSrc _ _ _ _ _ _ _ _ _ _ _ _ _ _)); (fail_if_success (with_reducible show LCt.CompSrcT _ _ _ _ _ _ _ _ _ _ _ _ _ _ _)); (fail_if_success ((with_reducible refine stopAt ?gdK ?gdH); (case gdK => exact rfl))))); (try (rename News _ _ _ _ => nN; dsimp only at nN)); walk1) | ((((fail_if_success (with_reducible show wpAny _ _ (exec (Stmt.For _ _ _ _ _) _) _ _ _)); (fail_if_success (with_reducible show wpAny _ _ (exec (Stmt.While _ _ _ _) _) _ _ _)); (fail_if_success (with_reducible show Exists _)); (fail_if_success (with_reducible show wpAny _ _ (eval (Expr.ListComp _ _ _ _) _) _ _ _)); (fail_if_success (with_reducible show LCg.CompSrc _ _ _ _ _ _ _ _ _ _ _ _ _ _)); (fail_if_success (with_reducible show LCt.CompSrcT _ _ _ _ _ _ _ _ _ _ _ _ _ _ _)); (fail_if_success ((with_reducible refine stopAt ?gdK ?gdH); (case gdK => exact rfl))))); dsimp only; walk1) | (leave1; walk_say "STEP leave1"; try dsimp only) | fail "no step"))
      rename News h₀ _ _ _ => NE
      rename News g' _ _ _ => NG
      exact hret _ _ _ _ ⟨_, D1, vs2, f, far, tf, kf, tl1, kb1, tp1, rfl, hj, hI, rfl⟩ (by assumption) (newsSub NE (by (first | exact subI | (((try dsimp only [lexM, lexO, rdM, rdP, lexD, strD, List.cons_append, List.nil_append])); first | walk_at "ALLIN" | walk_at "SUBALL")))) (Keep.fr Kg (by assumption)) (Keep.fresh Kg (newsSub NG (by (first | exact subI | (((try dsimp only [lexM, lexO, rdM, rdP, lexD, strD, List.cons_append, List.nil_append])); first | walk_at "ALLIN" | walk_at "SUBALL")))))
    | cons q qs1 =>
      obtain ⟨hra, t, rfl⟩ := hr1
      obtain ⟨b1, b2, b3, b4, b5, b6, b7, b8⟩ := hJ _ _ _ _ hj
      dsimp only [lexM, lexO, rdM, rdP, lexD, strD, List.cons_append, List.nil_append] at N1
      have hxl := dots_len q
      have hxn := dots_ne q
      have hfn := some_ne b4
      generalize dots (q + 1) = x at *
      (repeat' (first | (k_unfold; (try dsimp only)) | (k_end; wrow_close) | ((((fail_if_success (with_reducible show wpAny _ _ (exec (Stmt.For _ _ _ _ _) _) _ _ _)); (fail_if_success (with_reducible show wpAny _ _ (exec (Stmt.While _ _ _ _) _) _ _ _)); (fail_if_success (with_reducible show Exists _)); (fail_if_success (with_reducible show wpAny _ _ (eval (Expr.ListComp _ _ _ _) _) _ _ _)); (fail_if_success (with_reducible show LCg.CompSrc _ _ _ _ _ _ _ _ _ _ _ _ _ _)); (fail_if_success (with_reducible show LCt.CompSrcT _ _ _ _ _ _ _ _ _ _ _ _ _ _ _)); (fail_if_success ((with_reducible refine stopAt ?gdK ?gdH); (case gdK => exact rfl))))); (try (rename News _ _ _ _ => nN; dsimp only at nN)); walk1) | ((((fail_if_success (with_reducible show wpAny _ _ (exec (Stmt.For _ _ _ _ _) _) _ _ _)); (fail_if_success (with_reducible show wpAny _ _ (exec (Stmt.While _ _ _ _) _) _ _ _)); (fail_if_success (with_reducible show Exists _)); (fail_if_success (with_reducible show wpAny _ _ (eval (Expr.ListComp _ _ _ _) _) _ _ _)); (fail_if_success (with_reducible show LCg.CompSrc _ _ _ _ _ _ _ _ _ _ _ _ _ _)); (fail_if_success (with_reducible show LCt.CompSrcT _ _ _ _ _ _ _ _ _ _ _ _ _ _ _)); (fail_if_success ((with_reducible refine stopAt ?gdK ?gdH); (case gdK => exact rfl))))); dsimp only; walk1) | (leave1; walk_say "STEP leave1"; try dsimp only) | fail "no step"))
      rename_i LN _ lt2 _ _ _ NN
      have hvl : vs2.length = f.length := hI.length
      refine' Call.use (bl_call w D1 vs2 f kf _ _ hI b3 (by omega)) (rest := (LN, _) :: lexM w a line tl1 pb1 kb1 pl tp1) ?B ?F ?X ?C ?N ?T ?hs ?hr ?ho ?hk ?hd ?hu ?_
      (((case B => assumption); (case F => assumption); (case X => assumption); (case C => assumption); (case N => assumption); (case T => assumption); (case hs => (first | exact subI | (((try dsimp only [lexM, lexO, rdM, rdP, lexD, strD, List.cons_append, List.nil_append])); first | walk_at "ALLIN" | walk_at "SUBALL"))); (case hr => (first | exact subI | (((try dsimp only [lexM, lexO, rdM, rdP, lexD, strD, List.cons_append, List.nil_append])); first | walk_at "ALLIN" | walk_at "SUBALL"))); (case ho => first | walk_at "OFF" | (((try dsimp only [lexM, lexO, rdM, rdP, lexD, strD, List.cons_append, List.nil_append])); walk_at "OFF")); (case hk => first | exact rfl | assumption); (case hd => ktr_room); (case hu => ktr_units)))
      rintro _ _ h3 tk3 ⟨k, t3, rfl, hk, rfl⟩ F3 N3 K3 Z3
      clear NN K3 Z3
      rename_i FX
      clear FX
      have hwq := dots_wish hxl hZ0
      rw [hwq] at hk
      obtain ⟨hw0, hw1⟩ := wish_rg q hZ
      generalize ((x.length : Int) - 1).fmod Z = wi at *
      subst hwq
      dsimp only [lexM, lexO, rdM, rdP, lexD, strD, List.cons_append, List.nil_append] at N3
      obtain ⟨c1, c2⟩ := b8 k hk
      have hk1 := hk.1
      (try dsimp only); (try k_fold)
      by_cases hkf : k = f.length
      · have hks : (k : Int) = (f.length : Int) := by rw [hkf]
        (repeat' (first | (k_unfold; (try dsimp only)) | (k_end; wrow_close) | ((((fail_if_success (with_reducible show wpAny _ _ (exec (Stmt.For _ _ _ _ _) _) _ _ _)); (fail_if_success (with_reducible show wpAny _ _ (exec (Stmt.While _ _ _ _) _) _ _ _)); (fail_if_success (with_reducible show Exists _)); (fail_if_success (with_reducible show wpAny _ _ (eval (Expr.ListComp _ _ _ _) _) _ _ _)); (fail_if_success (with_reducible show LCg.CompSrc _ _ _ _ _ _ _ _ _ _ _ _ _ _)); (fail_if_success (with_reducible show LCt.CompSrcT _ _ _ _ _ _ _ _ _ _ _ _ _ _ _)); (fail_if_success ((with_reducible refine stopAt ?gdK ?gdH); (case gdK => exact rfl))))); (try (rename News _ _ _ _ => nN; dsimp only at nN)); walk1) | ((((fail_if_success (with_reducible show wpAny _ _ (exec (Stmt.For _ _ _ _ _) _) _ _ _)); (fail_if_success (with_reducible show wpAny _ _ (exec (Stmt.While _ _ _ _) _) _ _ _)); (fail_if_success (with_reducible show Exists _)); (fail_if_success (with_reducible show wpAny _ _ (eval (Expr.ListComp _ _ _ _) _) _ _ _)); (fail_if_success (with_reducible show LCg.CompSrc _ _ _ _ _ _ _ _ _ _ _ _ _ _)); (fail_if_success (with_reducible show LCt.CompSrcT _ _ _ _ _ _ _ _ _ _ _ _ _ _ _)); (fail_if_success ((with_reducible refine stopAt ?gdK ?gdH); (case gdK => exact rfl))))); dsimp only; walk1) | (leave1; walk_say "STEP leave1"; try dsimp only) | fail "no step"))
        rotate_left
        · exact absurd hks (by assumption)
        rename_i NN
        refine' Call.use (push1_call w a ok (Str.ofString ".") 0 (by decide) _ line tl1 pb1 qs1 kb1 pl tp1 hra (by omega)) (rest := [(D1, W.listOf vs2.toArray kf)]) ?B ?F ?X ?C ?N ?T ?hs ?hr ?ho ?hk ?hd ?hu ?_
        (((case B => assumption); (case F => assumption); (case X => assumption); (case C => assumption); (case N => assumption); (case T => assumption); (case hs => (first | exact subI | (((try dsimp only [lexM, lexO, rdM, rdP, lexD, strD, List.cons_append, List.nil_append])); first | walk_at "ALLIN" | walk_at "SUBALL"))); (case hr => (first | exact subI | (((try dsimp only [lexM, lexO, rdM, rdP, lexD, strD, List.cons_append, List.nil_append])); first | walk_at "ALLIN" | walk_at "SUBALL"))); (case ho => first | walk_at "OFF" | (((try dsimp only [lexM, lexO, rdM, rdP, lexD, strD, List.cons_append, List.nil_append])); walk_at "OFF")); (case hk => first | exact rfl | assumption); (case hd => ktr_room); (case hu => ktr_units)))
        rintro _ _ h4 tk4 ⟨rfl, kb4, pb4, hra4, rfl⟩ F4 N4 K4 Z4
        clear NN K4 Z4
        dsimp only [lexM, lexO, rdM, rdP, lexD, strD, List.cons_append, List.nil_append] at N4
        (try dsimp only); (try k_fold)
        (repeat' (first | (k_unfold; (try dsimp only)) | (k_end; wrow_close) | ((((fail_if_success (with_reducible show wpAny _ _ (exec (Stmt.For _ _ _ _ _) _) _ _ _)); (fail_if_success (with_reducible show wpAny _ _ (exec (Stmt.While _ _ _ _) _) _ _ _)); (fail_if_success (with_reducible show Exists _)); (fail_if_success (with_reducible show wpAny _ _ (eval (Expr.ListComp _ _ _ _) _) _ _ _)); (fail_if_success (with_reducible show LCg.CompSrc _ _ _ _ _ _ _ _ _ _ _ _ _ _)); (fail_if_success (with_reducible show LCt.CompSrcT _ _ _ _ _ _ _ _ _ _ _ _ _ _ _)); (fail_if_success ((with_reducible refine stopAt ?gdK ?gdH); (case gdK => exact rfl))))); (try (rename News _ _ _ _ => nN; dsimp only at nN)); walk1) | ((((fail_if_success (with_reducible show wpAny _ _ (exec (Stmt.For _ _ _ _ _) _) _ _ _)); (fail_if_success (with_reducible show wpAny _ _ (exec (Stmt.While _ _ _ _) _) _ _ _)); (fail_if_success (with_reducible show Exists _)); (fail_if_success (with_reducible show wpAny _ _ (eval (Expr.ListComp _ _ _ _) _) _ _ _)); (fail_if_success (with_reducible show LCg.CompSrc _ _ _ _ _ _ _ _ _ _ _ _ _ _)); (fail_if_success (with_reducible show LCt.CompSrcT _ _ _ _ _ _ _ _ _ _ _ _ _ _ _)); (fail_if_success ((with_reducible refine stopAt ?gdK ?gdH); (case gdK => exact rfl))))); dsimp only; walk1) | (leave1; walk_say "STEP leave1"; try dsimp only) | fail "no step"))
        rename_i NN
        refine' Call.use (row_call w a ok hread line tl1 pb4 (qs1 ++ [0]) kb4 pl tp1 hat hra4 (by simp; omega)) (rest := [(D1, W.listOf vs2.toArray kf)]) ?B ?F ?X ?C ?N ?T ?hs ?hr ?ho ?hk ?hd ?hu ?_
        (((case B => assumption); (case F => assumption); (case X => assumption); (case C => assumption); (case N => assumption); (case T => assumption); (case hs => (first | exact subI | (((try dsimp only [lexM, lexO, rdM, rdP, lexD, strD, List.cons_append, List.nil_append])); first | walk_at "ALLIN" | walk_at "SUBALL"))); (case hr => (first | exact subI | (((try dsimp only [lexM, lexO, rdM, rdP, lexD, strD, List.cons_append, List.nil_append])); first | walk_at "ALLIN" | walk_at "SUBALL"))); (case ho => first | walk_at "OFF" | (((try dsimp only [lexM, lexO, rdM, rdP, lexD, strD, List.cons_append, List.nil_append])); walk_at "OFF")); (case hk => first | exact rfl | assumption); (case hd => ktr_room); (case hu => ktr_units)))
        rintro rv5 _ h5 tk5 ⟨pb5, tl5, kb5, tp5, hrow5, rfl⟩ F5 N5 K5 Z5
        clear NN K5 Z5
        dsimp only [lexM, lexO, rdM, rdP, lexD, strD, List.cons_append, List.nil_append] at N5
        (try dsimp only); (try k_fold)
        (repeat' (first | (k_unfold; (try dsimp only)) | (k_end; wrow_close) | ((((fail_if_success (with_reducible show wpAny _ _ (exec (Stmt.For _ _ _ _ _) _) _ _ _)); (fail_if_success (with_reducible show wpAny _ _ (exec (Stmt.While _ _ _ _) _) _ _ _)); (fail_if_success (with_reducible show Exists _)); (fail_if_success (with_reducible show wpAny _ _ (eval (Expr.ListComp _ _ _ _) _) _ _ _)); (fail_if_success (with_reducible show LCg.CompSrc _ _ _ _ _ _ _ _ _ _ _ _ _ _)); (fail_if_success (with_reducible show LCt.CompSrcT _ _ _ _ _ _ _ _ _ _ _ _ _ _ _)); (fail_if_success ((with_reducible refine stopAt ?gdK ?gdH); (case gdK => exact rfl))))); (try (rename News _ _ _ _ => nN; dsimp only at nN)); walk1) | ((((fail_if_success (with_reducible show wpAny _ _ (exec (Stmt.For _ _ _ _ _) _) _ _ _)); (fail_if_success (with_reducible show wpAny _ _ (exec (Stmt.While _ _ _ _) _) _ _ _)); (fail_if_success (with_reducible show Exists _)); (fail_if_success (with_reducible show wpAny _ _ (eval (Expr.ListComp _ _ _ _) _) _ _ _)); (fail_if_success (with_reducible show LCg.CompSrc _ _ _ _ _ _ _ _ _ _ _ _ _ _)); (fail_if_success (with_reducible show LCt.CompSrcT _ _ _ _ _ _ _ _ _ _ _ _ _ _ _)); (fail_if_success ((with_reducible refine stopAt ?gdK ?gdH); (case gdK => exact rfl))))); dsimp only; walk1) | (leave1; walk_say "STEP leave1"; try dsimp only) | fail "no step"))
        rename News _ _ _ _ => NE
        rename Fr _ _ _ _ => FE
        refine kOutW hIv ?_
        exact ⟨muQ (qs1 ++ [0]), muQ_up (c1 hkf).1, _, _, qs1 ++ [0], rv5, pb5, vs2, f, _, _, kf, tl5, kb5, tp5, rfl, ⟨_, FE, rfl⟩, newsSub NE (by (first | exact subI | (((try dsimp only [lexM, lexO, rdM, rdP, lexD, strD, List.cons_append, List.nil_append])); first | walk_at "ALLIN" | walk_at "SUBALL"))), hrow5, hI, (c1 hkf).2, rfl⟩
      · obtain ⟨p1, v1, tv1, q1, P1, R1, hvs, hff, g1, g2, g3, g4⟩ := intsSplit hI k (by omega)
        have hks : (k : Int) ≠ (f.length : Int) := by omega
        (repeat' (first | (k_unfold; (try dsimp only)) | (k_end; wrow_close) | ((((fail_if_success (with_reducible show wpAny _ _ (exec (Stmt.For _ _ _ _ _) _) _ _ _)); (fail_if_success (with_reducible show wpAny _ _ (exec (Stmt.While _ _ _ _) _) _ _ _)); (fail_if_success (with_reducible show Exists _)); (fail_if_success (with_reducible show wpAny _ _ (eval (Expr.ListComp _ _ _ _) _) _ _ _)); (fail_if_success (with_reducible show LCg.CompSrc _ _ _ _ _ _ _ _ _ _ _ _ _ _)); (fail_if_success (with_reducible show LCt.CompSrcT _ _ _ _ _ _ _ _ _ _ _ _ _ _ _)); (fail_if_success ((with_reducible refine stopAt ?gdK ?gdH); (case gdK => exact rfl))))); (try (rename News _ _ _ _ => nN; dsimp only at nN)); walk1) | ((((fail_if_success (with_reducible show wpAny _ _ (exec (Stmt.For _ _ _ _ _) _) _ _ _)); (fail_if_success (with_reducible show wpAny _ _ (exec (Stmt.While _ _ _ _) _) _ _ _)); (fail_if_success (with_reducible show Exists _)); (fail_if_success (with_reducible show wpAny _ _ (eval (Expr.ListComp _ _ _ _) _) _ _ _)); (fail_if_success (with_reducible show LCg.CompSrc _ _ _ _ _ _ _ _ _ _ _ _ _ _)); (fail_if_success (with_reducible show LCt.CompSrcT _ _ _ _ _ _ _ _ _ _ _ _ _ _ _)); (fail_if_success ((with_reducible refine stopAt ?gdK ?gdH); (case gdK => exact rfl))))); dsimp only; walk1) | (leave1; walk_say "STEP leave1"; try dsimp only) | fail "no step"))
        · exact absurd (by assumption) hks
        subst hvs
        rename News _ _ _ _ => NN
        rename Fr _ _ _ _ => FF
        k_here
        k_dflt (refine' popL (p := p1) (q := q1) (v := Value.int v1 tv1) ?k1 ?k2 g1 ?k4 ?k5 ?_; (case k1 => exact FF); (case k2 => exact NN); (case k4 => k_upd); (case k5 => omega); k_whole)
        intro h4 F4 N4
        clear NN FF
        (try dsimp only); (try k_fold)
        (repeat' (first | (k_unfold; (try dsimp only)) | (k_end; wrow_close) | ((((fail_if_success (with_reducible show wpAny _ _ (exec (Stmt.For _ _ _ _ _) _) _ _ _)); (fail_if_success (with_reducible show wpAny _ _ (exec (Stmt.While _ _ _ _) _) _ _ _)); (fail_if_success (with_reducible show Exists _)); (fail_if_success (with_reducible show wpAny _ _ (eval (Expr.ListComp _ _ _ _) _) _ _ _)); (fail_if_success (with_reducible show LCg.CompSrc _ _ _ _ _ _ _ _ _ _ _ _ _ _)); (fail_if_success (with_reducible show LCt.CompSrcT _ _ _ _ _ _ _ _ _ _ _ _ _ _ _)); (fail_if_success ((with_reducible refine stopAt ?gdK ?gdH); (case gdK => exact rfl))))); (try (rename News _ _ _ _ => nN; dsimp only at nN)); walk1) | ((((fail_if_success (with_reducible show wpAny _ _ (exec (Stmt.For _ _ _ _ _) _) _ _ _)); (fail_if_success (with_reducible show wpAny _ _ (exec (Stmt.While _ _ _ _) _) _ _ _)); (fail_if_success (with_reducible show Exists _)); (fail_if_success (with_reducible show wpAny _ _ (eval (Expr.ListComp _ _ _ _) _) _ _ _)); (fail_if_success (with_reducible show LCg.CompSrc _ _ _ _ _ _ _ _ _ _ _ _ _ _)); (fail_if_success (with_reducible show LCt.CompSrcT _ _ _ _ _ _ _ _ _ _ _ _ _ _ _)); (fail_if_success ((with_reducible refine stopAt ?gdK ?gdH); (case gdK => exact rfl))))); dsimp only; walk1) | (leave1; walk_say "STEP leave1"; try dsimp only) | fail "no step"))
        rename News _ _ _ _ => NN
        refine' Call.use (row_call w a ok hread line tl1 pb1 qs1 kb1 pl tp1 hat hra (by omega)) (rest := [(D1, W.listOf (p1 ++ q1).toArray (kf + 1))]) ?B ?F ?X ?C ?N ?T ?hs ?hr ?ho ?hk ?hd ?hu ?_
        (((case B => assumption); (case F => assumption); (case X => assumption); (case C => assumption); (case N => assumption); (case T => assumption); (case hs => (first | exact subI | (((try dsimp only [lexM, lexO, rdM, rdP, lexD, strD, List.cons_append, List.nil_append])); first | walk_at "ALLIN" | walk_at "SUBALL"))); (case hr => (first | exact subI | (((try dsimp only [lexM, lexO, rdM, rdP, lexD, strD, List.cons_append, List.nil_append])); first | walk_at "ALLIN" | walk_at "SUBALL"))); (case ho => first | walk_at "OFF" | (((try dsimp only [lexM, lexO, rdM, rdP, lexD, strD, List.cons_append, List.nil_append])); walk_at "OFF")); (case hk => first | exact rfl | assumption); (case hd => ktr_room); (case hu => ktr_units)))
        rintro rv5 _ h5 tk5 ⟨pb5, tl5, kb5, tp5, hrow5, rfl⟩ F5 N5 K5 Z5
        clear NN K5 Z5
        dsimp only [lexM, lexO, rdM, rdP, lexD, strD, List.cons_append, List.nil_append] at N5
        (try dsimp only); (try k_fold)
        (repeat' (first | (k_unfold; (try dsimp only)) | (k_end; wrow_close) | ((((fail_if_success (with_reducible show wpAny _ _ (exec (Stmt.For _ _ _ _ _) _) _ _ _)); (fail_if_success (with_reducible show wpAny _ _ (exec (Stmt.While _ _ _ _) _) _ _ _)); (fail_if_success (with_reducible show Exists _)); (fail_if_success (with_reducible show wpAny _ _ (eval (Expr.ListComp _ _ _ _) _) _ _ _)); (fail_if_success (with_reducible show LCg.CompSrc _ _ _ _ _ _ _ _ _ _ _ _ _ _)); (fail_if_success (with_reducible show LCt.CompSrcT _ _ _ _ _ _ _ _ _ _ _ _ _ _ _)); (fail_if_success ((with_reducible refine stopAt ?gdK ?gdH); (case gdK => exact rfl))))); (try (rename News _ _ _ _ => nN; dsimp only at nN)); walk1) | ((((fail_if_success (with_reducible show wpAny _ _ (exec (Stmt.For _ _ _ _ _) _) _ _ _)); (fail_if_success (with_reducible show wpAny _ _ (exec (Stmt.While _ _ _ _) _) _ _ _)); (fail_if_success (with_reducible show Exists _)); (fail_if_success (with_reducible show wpAny _ _ (eval (Expr.ListComp _ _ _ _) _) _ _ _)); (fail_if_success (with_reducible show LCg.CompSrc _ _ _ _ _ _ _ _ _ _ _ _ _ _)); (fail_if_success (with_reducible show LCt.CompSrcT _ _ _ _ _ _ _ _ _ _ _ _ _ _ _)); (fail_if_success ((with_reducible refine stopAt ?gdK ?gdH); (case gdK => exact rfl))))); dsimp only; walk1) | (leave1; walk_say "STEP leave1"; try dsimp only) | fail "no step"))
        rename News _ _ _ _ => NE
        rename Fr _ _ _ _ => FE
        refine kOutW hIv ?_
        exact ⟨muQ qs1, muQ_dn, _, _, qs1, rv5, pb5, p1 ++ q1, P1 ++ R1, _, _, kf + 1, tl5, kb5, tp5, rfl, ⟨_, FE, rfl⟩, newsSub NE (by (first | exact subI | (((try dsimp only [lexM, lexO, rdM, rdP, lexD, strD, List.cons_append, List.nil_append])); first | walk_at "ALLIN" | walk_at "SUBALL"))), hrow5, intsApp g3 g4, c2 P1 v1 R1 hff g2, rfl⟩
end Mine

local macro_rules | `(tactic| walk_at "call builtin:len") => `(tactic| (k_here; (with_reducible show wpAny _ _ (call (Value.builtin "len") [Value.str _ _]) _ _ _); k_dflt (refine' lenS ?k1 ?k2 ?_; (case k1 => assumption); (case k2 => omega); k_whole)))

-- part RS
section
open PySem.Builtin PySem.Builtin.Re PySem.Calls
namespace Mine
theorem slot_re_sub : Slot "re.Pattern" "sub" "re.Pattern.sub" :=
  .of (owner := "re.Pattern") (n := "sub") (by rw [typeLookup_type, builtinLookup_eq_fast]; kernel_rfl) (by decide +kernel) (by decide +kernel) (by decide +kernel)
    (by first | exact .inl (by decide +kernel) | exact .inr (by decide +kernel)) (by rw [isSubtype_type]; kernel_rfl)
theorem entry_re_sub : entryFor table "re.Pattern.sub" = some Builtin.«re.Pattern.sub» := entryFor_of_fast (by kernel_rfl)
theorem entry_re_loop : entryFor table "re.Pattern.sub.loop" = some Builtin.«re.Pattern.sub.loop» := entryFor_of_fast (by kernel_rfl)
theorem plain_re_loop : plainId "re.Pattern.sub.loop" = true := by decide +kernel
theorem args_re_sub (a b c : Value) : argsOk "re.Pattern.sub" ⟨[a, b, c], []⟩ := by unfold argsOk; kernel_rfl
theorem type_re_sub : typeOf (.builtin "re.Pattern.sub") = pure (.type "method_descriptor") := by show builtinType _ = _; rw [builtinType_eq_fast]; kernel_rfl
theorem plainAttrs_re : PlainAttrs "re.Pattern" :=
  ⟨⟨"object.__getattribute__", by rw [typeLookup_type, builtinLookup_eq_fast]; kernel_rfl, by decide +kernel⟩, by rw [typeLookup_type, builtinLookup_eq_fast]; kernel_rfl⟩
theorem look_str_call : typeLookup (.type "str") "__call__" = pure none := by rw [typeLookup_type, builtinLookup_eq_fast]; kernel_rfl
section
variable {M : Model} {A : Around} {E : Value → Shared → Prop} {s : Shared}
theorem forIn_quiet {α : Type} (f : α → PUnit → Sem (ForInStep PUnit)) (hf : ∀ x (Q : ForInStep PUnit → Shared → Prop) (s : Shared), Q (.yield ()) s → wpAny M A (f x ()) Q E s) {Q : PUnit → Shared → Prop} : ∀ (l : List α) (s : Shared), Q () s → wpAny M A (forIn l PUnit.unit f) Q E s
  | [], s, h => by rw [List.forIn_nil]; exact wpAny_pure h
  | x :: l, s, h => by
    rw [List.forIn_cons]
    exact wpAny_bind (hf x _ _ (forIn_quiet f hf l s h))
theorem drive_ok : ∀ (T n : Nat) (m : Sre.M) (Q : Sre.M → Shared → Prop) (s : Shared), (itM n m).outcome.isSome = true → n ≤ 4 * T → 1 ≤ T → Q (itM n m) s → wpAny M A (reDrive T m) Q E s
  | 0, n, m, Q, s, ho, hn, hT, hQ => by omega
  | T + 1, n, m, Q, s, ho, hn, hT, hQ => by
    show wpAny M A (if (m.runFor 4).outcome.isSome = true then pure (m.runFor 4) else rule "sre.turn" >>= fun _ => reDrive T (m.runFor 4)) Q E s
    rw [runFor_it]
    by_cases h4 : n ≤ 4
    · have e : itM 4 m = itM n m := by rw [show 4 = n + (4 - n) by omega, itM_add, itM_done ho]
      rw [e, if_pos ho]
      exact wpAny_pure hQ
    · have e : itM n m = itM (n - 4) (itM 4 m) := by rw [← itM_add]; congr 1; omega
      split
      · rename_i h
        rw [e, itM_done h] at hQ
        exact wpAny_pure hQ
      · exact wpAny_bind (wpAny_rule (drive_ok T (n - 4) _ Q s (e ▸ ho) (by omega) (by omega) (e ▸ hQ)))
theorem seen_quiet {m : Sre.M} {Q : PUnit → Shared → Prop} (h : Q () s) :
    wpAny M A (forIn (List.range Sre.names.size) PUnit.unit fun i (_ : PUnit) => if m.seen.has i = true then (do rule (Sre.names.getD i ""); pure (ForInStep.yield PUnit.unit)) else pure (ForInStep.yield PUnit.unit)) Q E s := by
  refine forIn_quiet _ (fun x Q s h => ?_) _ _ h
  split
  · exact wpAny_bind (wpAny_rule (wpAny_pure h))
  · exact wpAny_pure h
theorem end_found {m m' : Sre.M} {n : Nat} {Q : Option Sre.M → Shared → Prop} (h : itM n m = m') (hn : n ≤ 2 ^ 30) (ho : m'.outcome = some .matched) (hQ : Q (some m') s) : wpAny M A (reRunToEnd m) Q E s := by
  unfold reRunToEnd
  refine wpAny_bind (drive_ok (2 ^ 64) n m _ s (by rw [h, ho]; rfl) (by omega) (by decide) ?_)
  rw [h]
  refine wpAny_bind (seen_quiet ?_)
  rw [ho]
  exact wpAny_pure hQ
theorem end_none {m : Sre.M} {n : Nat} {Q : Option Sre.M → Shared → Prop} (ho : (itM n m).outcome = some .failed) (hn : n ≤ 2 ^ 30) (hQ : Q none s) : wpAny M A (reRunToEnd m) Q E s := by
  unfold reRunToEnd
  refine wpAny_bind (drive_ok (2 ^ 64) n m _ s (by rw [ho]; rfl) (by omega) (by decide) ?_)
  refine wpAny_bind (seen_quiet ?_)
  rw [ho]
  exact wpAny_pure hQ
end

/-- the texts of a list, one behind the other -/
def flatT (l : List Str) : List Nat := (l.map (fun x => x.cps.toList)).flatten
theorem flatT_app (l l' : List Str) : flatT (l ++ l') = flatT l ++ flatT l' := by simp [flatT]
theorem join_flat (sep : Str) (hs : sep.cps = #[]) : ∀ l : List Str, (Txt.join sep l).cps.toList = flatT l := by
  intro l
  show (Builtin.Str.glued sep l).cps.toList = _
  rw [StrLaws.glued_eq_join]
  induction l with
  | nil => rfl
  | cons x r ih =>
    cases r with
    | nil => simp [Str.join, flatT]
    | cons y r =>
      show (x.cps ++ sep.cps ++ (Str.join sep (y :: r)).cps).toList = _
      rw [hs, Array.toList_append, ih]
      simp [flatT]
theorem flatT_len : ∀ l : List Str, (flatT l).length = (l.map (·.length)).sum
  | [] => rfl
  | x :: l => by
    have := flatT_len l
    simp only [flatT, List.map_cons, List.flatten_cons, List.length_append, List.sum_cons] at this ⊢
    rw [this]; simp [Str.length]
theorem joinOk_of {sep : Str} (hs : sep.cps = #[]) {l : List Str} (h : (flatT l).length ≤ 2 ^ 20) : JoinOk sep l = true := by
  unfold JoinOk Builtin.Str.tooLong
  rw [StrLaws.joinTotal, ← flatT_len]
  have : sep.length = 0 := by simp [Str.length, hs]
  rw [this]
  simp only [Nat.mul_zero, Nat.add_zero, Bool.not_eq_true', decide_eq_false_iff_not]
  have : sizeLine = 2 ^ 24 := rfl
  omega
/-- the text behind a substitution, from a place on -/
def outL (text repl : List Nat) : Nat → List (Nat × Nat) → List Nat
  | k, [] => text.drop k
  | k, (b, e) :: ms => (text.drop k).take (b - k) ++ repl ++ outL text repl e ms
/-- what the searches find, one behind the other -/
inductive Chain (code text : Array Nat) : Nat → List (Nat × Nat) → Prop
  | nil (k : Nat) (n : Nat) (hk : k ≤ text.size) (hn : n ≤ 2 ^ 30) (h : (itM n (Sre.forSearch code text 0 k text.size false)).outcome = some .failed) : Chain code text k []
  | cons (k b e n : Nat) (m : Sre.M) (ms : List (Nat × Nat)) (hn : n ≤ 2 ^ 30) (h : itM n (Sre.forSearch code text 0 k text.size false) = m) (ho : m.outcome = some .matched) (hb : m.start = b) (he : m.handed = e) (hkb : k ≤ b) (hbe : b < e) (het : e ≤ text.size)
    (rest : Chain code text e ms) : Chain code text k ((b, e) :: ms)
theorem cut_toList (a : Array Nat) (b e : Nat) : (⟨a.extract b e⟩ : Str).cps.toList = (a.toList.drop b).take (e - b) := by
  show (a.extract b e).toList = _
  rw [Array.toList_extract, List.extract_eq_drop_take]
section
variable {prog : Program} {w : World} {A : Around} {E : Value → Shared → Prop} {s : Shared} {h₀ h : Heap} {L : Addr} {m : Str → Option Value} {news : List (Addr × Obj)}
theorem whole_target {M : Model} {P CT : Addr} {po co : Obj} {fs items : Array Value} {nc : Nat} {x : Str} {t : Tok} {Q : ReTarget → Shared → Prop} (hP : s.heap.get? P = some po) (hd : po.data = .fields fs) (h6 : reRawNat (fs.getD 6 .none) = 0) (h2 : reRawNat (fs.getD 2 .none) = 0)
    (h5 : fs.getD 5 .none = .ref CT) (hC : s.heap.get? CT = some co) (hcd : co.data = .seq items nc) (h : Q ⟨.ref P, .str x t, (items.map reRawOf).map (·.toNat), x.cps, 0, 0, 0, x.cps.size⟩ s) :
    wpAny M A (reWholeTarget (.ref P) (.str x t)) Q E s := by
  unfold reWholeTarget
  refine wpAny_bind (wpAny_fieldsOf hP hd ?_)
  refine wpAny_bind (m := reTextOf (.str x t)) (wpAny_bind (m := asStr? _) (wpAny_pure (wpAny_pure ?_)))
  dsimp only
  rw [h6, h2, h5]
  refine wpAny_bind (m := reNoCollectionInside _ _) (wpAny_pure ?_)
  refine wpAny_bind (m := reRawItems _) ?_
  unfold reRawItems
  refine wpAny_bind (wpAny_seqItems hC hcd ?_)
  exact wpAny_pure (wpAny_pure h)

/-- what stands under a pattern -/
structure PatAt (h : Heap) (P CT : Addr) (code : Array Nat) : Prop where
  at' : ∃ po co fs items nc, h.get? P = some po ∧ po.cls = .type "re.Pattern" ∧ po.dict = none ∧ po.data = .fields fs ∧ reRawNat (fs.getD 6 .none) = 0 ∧ reRawNat (fs.getD 2 .none) = 0 ∧ fs.getD 5 .none = .ref CT ∧ h.get? CT = some co ∧ co.data = .seq items nc ∧ (items.map reRawOf).map (·.toNat) = code
theorem PatAt.keeps {h h' : Heap} {P CT : Addr} {code : Array Nat} (p : PatAt h P CT code) (k : ∀ b o, h.get? b = some o → h'.get? b = some o) : PatAt h' P CT code := by
  obtain ⟨po, co, fs, items, nc, a1, a2, a3, a4, a5, a6, a7, a8, a9, a10⟩ := p.at'
  exact ⟨po, co, fs, items, nc, k _ _ a1, a2, a3, a4, a5, a6, a7, k _ _ a8, a9, a10⟩
theorem PatAt.target {M : Model} {P CT : Addr} {code : Array Nat} {x : Str} {t : Tok} {Q : ReTarget → Shared → Prop} (p : PatAt s.heap P CT code) (h : Q ⟨.ref P, .str x t, code, x.cps, 0, 0, 0, x.cps.size⟩ s) :
    wpAny M A (reWholeTarget (.ref P) (.str x t)) Q E s := by
  obtain ⟨po, co, fs, items, nc, a1, a2, a3, a4, a5, a6, a7, a8, a9, a10⟩ := p.at'
  subst a10
  exact whole_target a1 a4 a5 a6 a7 a8 a9 h
theorem push_news {S : Addr} {xs : Array Value} {n : Nat} {v : Value} {Q : Unit → Shared → Prop} (F : Fr h₀ L s.heap m) (N : News h₀ L s.heap ((S, seqObj "list" xs n) :: news)) (hne : ∀ p ∈ news, p.1 ≠ S) (hz : xs.size ≤ 2 ^ 22)
    (h : ∀ h', Fr h₀ L h' m → News h₀ L h' ((S, seqObj "list" (xs.push v) (n + 1)) :: news) → Q () { s with heap := h' }) : wpAny (model prog w) A (updateSeq S (·.push v)) Q E s := by
  have z := N _ (.head _)
  have hs := Heap.SameBut.update s.heap S (Obj.mapSeq (·.push v))
  have hl : sizeLine = 2 ^ 24 := rfl
  refine wpAny_updateSeq z.1 rfl (h _ (F.change hs z.2.1 z.2.2) (N.setHead hne hs ?_)) (by omega) (by simp only [Array.size_push]; omega)
  rw [Heap.get?_update_self _ z.1 rfl]
  simp only [Obj.mapSeq]
  split
  · rename_i hc; exfalso; simp at hc
  · rfl
theorem slice_at {M : Model} {text : Array Nat} {b e : Nat} {Q : Value → Shared → Prop} (hz : text.size ≤ 2 ^ 20) (h : Q (.str ⟨text.extract b e⟩ s.toks) { s with toks := s.toks + 1 }) : wpAny M A (reSlice text 0 b e) Q E s := by
  show wpAny M A (mkStr ⟨text.extract b e⟩) Q E s
  refine wpAny_mkStr h ?_
  have hl : sizeLine = 2 ^ 24 := rfl
  have : (⟨text.extract b e⟩ : Str).length ≤ text.size := by
    show (text.extract b e).size ≤ _
    rw [Array.size_extract]; omega
  omega

theorem strs_push (l : List (Str × Tok)) (x : Str) (t : Tok) : (strValues l).toArray.push (.str x t) = (strValues (l ++ [(x, t)])).toArray := by
  simp [strValues]
abbrev txts (l : List (Str × Tok)) : List Str := l.map (·.1)
abbrev lst (l : List (Str × Tok)) (n : Nat) : Obj := seqObj "list" (strValues l).toArray n

theorem flat_snoc (l : List (Str × Tok)) (y : Str) (t : Tok) : flatT (txts (l ++ [(y, t)])) = flatT (txts l) ++ y.cps.toList := by simp [flatT, txts]
theorem sub_end {S : Addr} {x : Str} {l : List (Str × Tok)} {nl : Nat} {R : Result → Shared → Prop} {fin : List Nat} {h : Heap} {tk : Nat} {tail : Value → Sem Fin} (hx : x.length ≤ 2 ^ 20) (ht : ∀ v, tail v = pure (.done (.ret v)))
    (hR : ∀ y t' h' tk', y.cps.toList = fin → Fr h₀ L h' m → News h₀ L h' news → R (.ok (.ret (.str y t'))) { s with heap := h', toks := tk' }) (hfin : fin.length ≤ 2 ^ 20)
    (hf : fin = flatT (txts l)) (F : Fr h₀ L h m) (N : News h₀ L h ((S, lst l nl) :: news)) :
    wpAny (model prog w) A.in1 (do
      let joiner ← reSlice x.cps 0 0 0
      if ((← seqItems? (.ref S)).getD #[]).isEmpty = true then (do let text ← pure joiner; tail text) else (do let text ← call (.builtin (if (0 == 0) = true then "str.join" else "bytes.join")) [joiner, .ref S]; tail text))
      (fun fin s' => match fin with | .done f => R (.ok f) s' | .again c' => c'.quiet = true ∧ codeAny (model prog w) A c' R s') (fun e s' => R (.error e) s') { s with heap := h, toks := tk } := by
  have N' : News h₀ L h news := fun q hq => N q (.tail _ hq)
  refine wpAny_bind (slice_at hx ?_)
  refine wpAny_bind (wpAny_seqItems (N _ (.head _)).1 rfl ?_)
  have e0 : (⟨x.cps.extract 0 0⟩ : Str) = Str.ofString "" := by
    rw [show Str.ofString "" = ⟨#[]⟩ by decide]
    apply congrArg Str.mk; simp
  rw [e0]
  cases l with
  | nil =>
    refine wpAny_bind (m := pure _) (wpAny_pure ?_)
    rw [ht]
    exact wpAny_pure (hR _ _ _ _ (by rw [hf]; rfl) F N')
  | cons p l =>
    show wpAny _ _ (call (.builtin "str.join") [.str (Str.ofString "") _, .ref S] >>= _) _ _ _
    refine wpAny_bind (SC.join (l := p :: l) (texts := txts (p :: l)) ⟨_, (N _ (.head _)).1, rfl, nl, rfl⟩ rfl (joinOk_of (by decide) (by rw [← hf]; exact hfin)) fun t' k => ?_)
    rw [ht]
    exact wpAny_pure (hR _ _ _ _ (by rw [join_flat _ (by decide), hf]) F N')
theorem sub_loop {P CT S : Addr} {code : Array Nat} {x rp : Str} {t tr : Tok} {R : Result → Shared → Prop} (hp : PatAt h₀ P CT code) (hne : ∀ p ∈ news, p.1 ≠ S) (hx : x.length ≤ 2 ^ 20) (fin : List Nat)
    (hR : ∀ y t' h' tk', y.cps.toList = fin → Fr h₀ L h' m → News h₀ L h' news → R (.ok (.ret (.str y t'))) { s with heap := h', toks := tk' }) (hfin : fin.length ≤ 2 ^ 20) :
    ∀ (ms : List (Nat × Nat)) (k : Nat) (l : List (Str × Tok)) (nl cnt : Nat) (h : Heap) (tk : Nat), Chain code x.cps k ms → fin = flatT (txts l) ++ outL x.cps.toList rp.cps.toList k ms → l.length + 2 * ms.length ≤ 2 ^ 21 → Fr h₀ L h m → News h₀ L h ((S, lst l nl) :: news) →
      codeAny (model prog w) A (.builtin "re.Pattern.sub.loop" ⟨[.ref P, .str x t, .str rp tr, rawInt 0, rawInt 0, rawInt cnt, rawInt k, rawInt k, .bool false, .ref S, .bool false], []⟩) R { s with heap := h, toks := tk } := by
  intro ms
  induction ms with
  | nil =>
    intro k l nl cnt h tk hc hf hlen F N
    cases hc with
    | nil k n hk hn hs =>
      refine codeAny_builtin entry_re_loop ?_
      rw [Around.under_plainId plain_re_loop]
      unfold Builtin.«re.Pattern.sub.loop»
      refine wpAny_bind (m := reWholeTarget _ _) ((hp.keeps F.keep).target ?_)
      refine wpAny_bind (m := reLiteralCannotBeTurned _) (wpAny_bind (m := asStr? _) (wpAny_pure (wpAny_pure ?_)))
      refine wpAny_bind (m := reNextFound _ _ _) (end_none hs hn ?_)
      by_cases hlt : k < x.cps.size
      · show wpAny _ _ (if k < x.cps.size then _ else _) _ _ _
        rw [if_pos hlt]
        refine wpAny_bind (slice_at hx ?_)
        refine wpAny_bind (push_news F N hne (by simp [strValues] at hlen ⊢; omega) fun h2 F2 N2 => ?_)
        rw [strs_push] at N2
        refine sub_end hx ?ht hR hfin ?_ F2 N2
        · exact fun v => rfl
        · rw [hf, flat_snoc, cut_toList]; congr 1; exact (List.take_of_length_le (by simp [outL])).symm
      · show wpAny _ _ (if k < x.cps.size then _ else _) _ _ _
        rw [if_neg hlt]
        refine sub_end hx ?ht2 hR hfin ?_ F N
        · exact fun v => rfl
        · rw [hf, outL, List.drop_eq_nil_of_le (by simp; omega), List.append_nil]
  | cons be ms ih => 
    intro k l nl cnt h tk hc hf hlen F N
    cases hc with
    | cons _ b e n mm _ hn hs ho hb he hkb hbe het rest =>
      refine codeAny_builtin entry_re_loop ?_
      rw [Around.under_plainId plain_re_loop]
      unfold Builtin.«re.Pattern.sub.loop»
      refine wpAny_bind (m := reWholeTarget _ _) ((hp.keeps F.keep).target ?_)
      refine wpAny_bind (m := reLiteralCannotBeTurned _) (wpAny_bind (m := asStr? _) (wpAny_pure (wpAny_pure ?_)))
      refine wpAny_bind (m := reNextFound _ _ _) (end_found hs hn ho ?_)
      have hmust : (mm.handed == mm.start) = false := by rw [hb, he]; simp; omega
      have key : ∀ (l' : List (Str × Tok)) (nl' : Nat) (h' : Heap) (tk' : Nat), flatT (txts l') = flatT (txts l) ++ (x.cps.toList.drop k).take (b - k) → l'.length ≤ l.length + 1 → Fr h₀ L h' m → News h₀ L h' ((S, lst l' nl') :: news) →
          wpAny (model prog w) A.in1 (do updateSeq S (·.push (.str rp tr)); again (.builtin "re.Pattern.sub.loop" ⟨[.ref P, .str x t, .str rp tr, rawInt 0, rawInt 0, rawInt ((cnt : Int) + 1), rawInt mm.handed, rawInt mm.handed, .bool (mm.handed == mm.start), .ref S, .bool false], []⟩))
            (fun fin s' => match fin with | .done f => R (.ok f) s' | .again c' => c'.quiet = true ∧ codeAny (model prog w) A c' R s') (fun e s' => R (.error e) s') { s with heap := h', toks := tk' } := by
        intro l' nl' h' tk' hl' hll F' N'
        refine wpAny_bind (push_news F' N' hne (by simp [strValues] at hlen ⊢; omega) fun h2 F2 N2 => ?_)
        rw [strs_push] at N2
        rw [hmust, he]
        have hih := ih e (l' ++ [(rp, tr)]) (nl' + 1) (cnt + 1) h2 tk' rest (by rw [hf, flat_snoc, hl', outL]; simp) (by simp at hlen ⊢; omega) F2 N2
        exact wpAny_pure ⟨plainId_quiet plain_re_loop _, hih⟩
      by_cases hlt : k < b
      · show wpAny _ _ (if k < mm.start then _ else _) _ _ _
        rw [if_pos (by rw [hb]; exact hlt)]
        refine wpAny_bind (slice_at hx ?_)
        refine wpAny_bind (push_news F N hne (by simp [strValues] at hlen ⊢; omega) fun h2 F2 N2 => ?_)
        rw [strs_push] at N2
        refine key _ _ _ _ ?_ (by simp) F2 N2
        rw [flat_snoc, cut_toList, hb]; rfl
      · show wpAny _ _ (if k < mm.start then _ else _) _ _ _
        rw [if_neg (by rw [hb]; exact hlt)]
        refine key _ _ _ _ ?_ (by simp) F N
        rw [show b - k = 0 by omega]; simp

theorem re_named (a b : Value) : reNamed "re.Pattern.sub" "sub" ["repl", "string", "count"] 2 [a, b] [] = pure [some a, some b, none] := rfl
theorem call_sub {P CT : Addr} {code : Array Nat} {x rp : Str} {t tr : Tok} {Q : Value → Shared → Prop} {ms : List (Nat × Nat)} (F : Fr h₀ L s.heap m) (N : News h₀ L s.heap news) (hp : PatAt h₀ P CT code) (hx : x.length ≤ 2 ^ 20) (hb : rp.cps.contains 92 = false)
    (hc : Chain code x.cps 0 ms) (hm : ms.length ≤ 2 ^ 19) (hfin : (outL x.cps.toList rp.cps.toList 0 ms).length ≤ 2 ^ 20)
    (hQ : ∀ y t' h' tk', y.cps.toList = outL x.cps.toList rp.cps.toList 0 ms → Fr h₀ L h' m → News h₀ L h' news → Q (.str y t') { s with heap := h', toks := tk' }) :
    wpAny (model prog w) A (call (.builtin "re.Pattern.sub") [.ref P, .str rp tr, .str x t]) Q E s := by
  have hp' := hp.keeps F.keep
  obtain ⟨po, co, fs, items, nc, a1, a2, a3, a4, a5, a6, a7, a8, a9, a10⟩ := id hp'.at'
  refine wpAny_call (codeAny_call_builtin slot_re_sub.plain entry_re_sub (slot_re_sub.check _ _ _ _ _ _ _ _ ⟨po, a1, a2⟩ (args_re_sub _ _ _) ?_))
  unfold Builtin.«re.Pattern.sub» reSubstitute
  refine wpAny_bind (wpAny_of_eq (re_named _ _) ?_)
  refine wpAny_bind (m := pure _) (wpAny_pure ?_)
  refine wpAny_bind (wpAny_specialOf (typeIs_str _ _ _) look_str_call ?_)
  refine wpAny_bind (m := asStr? _) (wpAny_pure ?_)
  refine wpAny_bind (m := pure _) (wpAny_pure ?_)
  rw [hb]
  refine wpAny_bind (m := pure _) (wpAny_pure ?_)
  refine wpAny_bind (wpAny_holding (hp'.target ?_))
  refine wpAny_bind (wpAny_newList ?_)
  have hl := F.above
  refine wpAny_pure ⟨plainId_quiet plain_re_loop _, sub_loop (s := s) hp (S := s.heap.objs.size) (news := news) (fun p hp => Nat.ne_of_lt (Heap.lt_size (N p hp).1)) hx _ (fun y t' h' tk' e F' N' => hQ y t' h' tk' e F' N') hfin ms 0 [] 0 0 _ _ hc rfl (by simp; omega) (F.push _) (News.push F N _)⟩
end
end Mine
end

-- part RT
namespace Mine
/-- rows: dots, and a row's end -/
def rowsT : List (Nat × List Nat) → List Nat
  | [] => []
  | (d, e) :: rs => List.replicate d 46 ++ (e ++ rowsT rs)
theorem getD_drop (t : Array Nat) (k j : Nat) : t.getD (k + j) 0 = (t.toList.drop k).getD j 0 := by
  rw [List.getD_eq_getElem?_getD, List.getElem?_drop, Array.getElem?_toList, Array.getD_eq_getD_getElem?]
theorem getD_rep (d j : Nat) (l : List Nat) (h : j < d) : (List.replicate d 46 ++ l).getD j 0 = 46 := by
  rw [List.getD_eq_getElem?_getD, List.getElem?_append_left (by simpa using h), List.getElem?_replicate, if_pos h]; rfl
theorem getD_after (d j : Nat) (l : List Nat) : (List.replicate d 46 ++ l).getD (d + j) 0 = l.getD j 0 := by
  rw [List.getD_eq_getElem?_getD, List.getElem?_append_right (by simp), List.length_replicate, Nat.add_sub_cancel_left, List.getD_eq_getElem?_getD]
def EndOk (e : List Nat) : Prop := e = [10] ∨ e = [13] ∨ e = [13, 10]
theorem drop_next {t : Array Nat} {k : Nat} {l r : List Nat} (h : t.toList.drop k = l ++ r) : t.toList.drop (k + l.length) = r := by
  rw [← List.drop_drop, h, List.drop_left]
theorem drop_len {t : Array Nat} {k : Nat} {l : List Nat} (hk : k ≤ t.size) (h : t.toList.drop k = l) : t.size = k + l.length := by
  have := congrArg List.length h
  rw [List.length_drop] at this
  simp at this; omega
/-- row ends turn to CR LF -/
theorem chainB (t : Array Nat) (hz : t.size ≤ 2 ^ 20) : ∀ (rs : List (Nat × List Nat)) (k : Nat), k ≤ t.size → t.toList.drop k = rowsT rs → (∀ r ∈ rs, 1 ≤ r.1 ∧ EndOk r.2) →
    ∃ ms, Chain codeB t k ms ∧ ms.length = rs.length ∧ outL t.toList [13, 10] k ms = rowsT (rs.map fun r => (r.1, [13, 10])) := by
  intro rs
  induction rs with
  | nil =>
    intro k hk hd _
    have hs := drop_len hk hd
    simp only [rowsT, List.length_nil, Nat.add_zero] at hs
    exact ⟨[], .nil k 1 hk (by decide) (B_none hk (fun j hj => by simp only [hitB, show decide (j < t.size) = false by simp; omega, Bool.false_and])), rfl, by rw [outL, hd]; rfl⟩
  | cons r rs ih =>
    intro k hk hd hr
    obtain ⟨d, e⟩ := r
    obtain ⟨hd1, he⟩ := hr _ (.head _)
    simp only at hd1 he
    rw [rowsT] at hd
    have hs := drop_len hk hd
    have g1 : ∀ j, j < d → t.getD (k + j) 0 = 46 := fun j hj => by rw [getD_drop, hd, getD_rep _ _ _ hj]
    have g2 : ∀ j, t.getD (k + d + j) 0 = (e ++ rowsT rs).getD j 0 := fun j => by rw [Nat.add_assoc, getD_drop, hd, getD_after]
    have g20 := g2 0
    have g21 := g2 1
    rw [Nat.add_zero] at g20
    have hlen : 1 ≤ e.length := by rcases he with rfl | rfl | rfl <;> simp
    simp only [List.length_append, List.length_replicate] at hs
    have hm : ∀ j, j < d → hitB t t.size (k + j) = false := fun j hj => by simp only [hitB, g1 j hj]; simp
    have hh : hitB t t.size (k + d) = true := by
      simp only [hitB, g20]
      rw [show decide (k + d < t.size) = true by simp; omega]
      rcases he with rfl | rfl | rfl <;> simp
    have hw : widB t t.size (k + d) = e.length := by
      unfold widB
      rw [g20, g21]
      rcases he with rfl | rfl | rfl
      · simp
      · rw [if_neg]; rfl
        rintro ⟨_, h2, h3⟩
        cases rs with
        | nil => simp [rowsT] at hs; omega
        | cons r rs =>
          obtain ⟨d2, e2⟩ := r
          have hd2 := (hr _ (.tail _ (.head _))).1
          simp only at hd2
          obtain ⟨d2, rfl⟩ : ∃ x, d2 = x + 1 := ⟨d2 - 1, by omega⟩
          simp [rowsT, List.replicate_succ] at h3
      · rw [if_pos]; rfl
        refine ⟨by simp, ?_, by simp⟩
        simp at hs; omega
    obtain ⟨n, sn, hn, hit⟩ := B_find (text := t) (lim := t.size) (n := d) (s := k) hm hh
    have hd' : t.toList.drop (k + d + e.length) = rowsT rs := by
      have := drop_next (l := List.replicate d 46 ++ e) (r := rowsT rs) (by rw [hd, List.append_assoc])
      rwa [List.length_append, List.length_replicate, ← Nat.add_assoc] at this
    obtain ⟨ms, hc, hml, ho⟩ := ih (k + d + e.length) (by omega) hd' (fun r hr' => hr r (.tail _ hr'))
    refine ⟨(k + d, k + d + e.length) :: ms, .cons k _ _ n _ ms (by omega) hit rfl rfl (by show k + d + widB t t.size (k + d) = _; rw [hw]) (by omega) (by omega) (by omega) hc, by simp [hml], ?_⟩
    rw [outL, ho, hd, show k + d - k = d by omega, List.take_left' (by simp)]
    simp [rowsT]
/-- the rows' first dots are doubled -/
theorem chainA (t : Array Nat) (hz : t.size ≤ 2 ^ 20) : ∀ (rs : List (Nat × List Nat)) (d k : Nat), k ≤ t.size → t.toList.drop k = List.replicate d 46 ++ ([13, 10] ++ rowsT rs) → bolA t k = false → (∀ r ∈ rs, 1 ≤ r.1 ∧ r.2 = [13, 10]) →
    ∃ ms, Chain codeA t k ms ∧ ms.length = rs.length ∧ outL t.toList [46, 46] k ms = List.replicate d 46 ++ ([13, 10] ++ rowsT (rs.map fun r => (r.1 + 1, [13, 10]))) := by
  intro rs
  induction rs with
  | nil =>
    intro d k hk hd hb _
    have hs := drop_len hk hd
    have g1 : ∀ j, j < d → t.getD (k + j) 0 = 46 := fun j hj => by rw [getD_drop, hd, getD_rep _ _ _ hj]
    have g2 : ∀ j, t.getD (k + d + j) 0 = ([13, 10] ++ rowsT []).getD j 0 := fun j => by rw [Nat.add_assoc, getD_drop, hd, getD_after]
    simp [rowsT] at hs
    have hm : ∀ j, j ≤ d + 2 → hitA t t.size (k + j) = false := fun j hj => by
      by_cases h1 : j < d
      · cases j with
        | zero => simp only [hitA, Nat.add_zero, hb, Bool.false_and]
        | succ j =>
          have : bolA t (k + (j + 1)) = false := by
            simp only [bolA, show k + (j + 1) - 1 = k + j by omega, g1 j (by omega)]; simp
          simp only [hitA, this, Bool.false_and]
      · have := g2 (j - d)
        rw [show k + d + (j - d) = k + j by omega] at this
        have h3 : j - d = 0 ∨ j - d = 1 ∨ j - d = 2 := by omega
        have : (t.getD (k + j) 0 == 46) = false := by
          rw [this]
          rcases h3 with h3 | h3 | h3 <;> (rw [h3]; simp [rowsT])
        simp only [hitA, this, Bool.and_false]
    obtain ⟨sn, e⟩ := A_start (text := t) (lim := t.size) (s := k) (by omega)
    obtain ⟨n, f, sn', hn, e2⟩ := A_none (text := t) (lim := t.size) (d + 2) k true sn (by omega) hm
    exact ⟨[], .nil k n hk (by omega) (by rw [e, e2]; rfl), rfl, by rw [outL, hd]; rfl⟩
  | cons r rs ih =>
    intro d k hk hd hb hr
    obtain ⟨d2, e2⟩ := r
    obtain ⟨hd2, he2⟩ := hr _ (.head _)
    simp only at hd2 he2
    subst he2
    obtain ⟨d2, rfl⟩ : ∃ x, d2 = x + 1 := ⟨d2 - 1, by omega⟩
    have hs := drop_len hk hd
    have g1 : ∀ j, j < d → t.getD (k + j) 0 = 46 := fun j hj => by rw [getD_drop, hd, getD_rep _ _ _ hj]
    have g2 : ∀ j, t.getD (k + d + j) 0 = ([13, 10] ++ rowsT ((d2 + 1, [13, 10]) :: rs)).getD j 0 := fun j => by rw [Nat.add_assoc, getD_drop, hd, getD_after]
    simp [rowsT] at hs
    have q0 := g2 0
    have q1 := g2 1
    have q2 := g2 2
    simp [rowsT, List.replicate_succ] at q0 q1 q2
    have hm : ∀ j, j < d + 2 → hitA t t.size (k + j) = false := fun j hj => by
      by_cases h1 : j < d
      · cases j with
        | zero => simp only [hitA, Nat.add_zero, hb, Bool.false_and]
        | succ j =>
          have : bolA t (k + (j + 1)) = false := by
            simp only [bolA, show k + (j + 1) - 1 = k + j by omega, g1 j (by omega)]; simp
          simp only [hitA, this, Bool.false_and]
      · have h3 : j = d ∨ j = d + 1 := by omega
        have : (t.getD (k + j) 0 == 46) = false := by
          rcases h3 with rfl | rfl
          · simp [q0]
          · rw [← Nat.add_assoc]; simp [q1]
        simp only [hitA, this, Bool.and_false]
    have hh : hitA t t.size (k + (d + 2)) = true := by
      have b1 : bolA t (k + (d + 2)) = true := by
        simp only [bolA, show k + (d + 2) - 1 = k + d + 1 by omega]; simp [q1]
      have b2 : (t.getD (k + (d + 2)) 0 == 46) = true := by rw [← Nat.add_assoc]; simp [q2]
      simp only [hitA, b1, b2, show decide (k + (d + 2) < t.size) = true by simp; omega]
      rfl
    obtain ⟨sn, e⟩ := A_start (text := t) (lim := t.size) (s := k) (by omega)
    obtain ⟨n, f, sn', hn, e2⟩ := A_find (text := t) (lim := t.size) (d + 2) k true sn hm hh
    have hd' : t.toList.drop (k + (d + 2) + 1) = List.replicate d2 46 ++ ([13, 10] ++ rowsT rs) := by
      have := drop_next (l := List.replicate d 46 ++ [13, 10, 46]) (r := List.replicate d2 46 ++ ([13, 10] ++ rowsT rs)) (by rw [hd]; simp [rowsT, List.replicate_succ])
      rw [← this]; congr 1; simp; omega
    have hb' : bolA t (k + (d + 2) + 1) = false := by
      simp only [bolA, show k + (d + 2) + 1 - 1 = k + d + 2 by omega]; simp [q2]
    obtain ⟨ms, hc, hml, ho⟩ := ih d2 (k + (d + 2) + 1) (by omega) hd' hb' (fun r hr' => hr r (.tail _ hr'))
    refine ⟨(k + (d + 2), k + (d + 2) + 1) :: ms, .cons k _ _ n _ ms (by omega) (by rw [e, e2]) rfl rfl rfl (by omega) (by omega) (by omega) hc, by simp [hml], ?_⟩
    rw [outL, ho, hd, show k + (d + 2) - k = d + 2 by omega]
    have : (List.replicate d 46 ++ ([13, 10] ++ rowsT ((d2 + 1, [13, 10]) :: rs))).take (d + 2) = List.replicate d 46 ++ [13, 10] := by
      rw [← List.append_assoc, List.take_left' (by simp)]
    rw [this]
    simp [rowsT, List.replicate_succ]
theorem chainA0 (t : Array Nat) (hz : t.size ≤ 2 ^ 20) (rs : List (Nat × List Nat)) (hne : rs ≠ []) (hd : t.toList = rowsT rs) (hr : ∀ r ∈ rs, 1 ≤ r.1 ∧ r.2 = [13, 10]) :
    ∃ ms, Chain codeA t 0 ms ∧ ms.length = rs.length ∧ outL t.toList [46, 46] 0 ms = rowsT (rs.map fun r => (r.1 + 1, [13, 10])) := by
  cases rs with
  | nil => exact absurd rfl hne
  | cons r rs =>
    obtain ⟨d2, e2⟩ := r
    obtain ⟨hd2, he2⟩ := hr _ (.head _)
    simp only at hd2 he2
    subst he2
    obtain ⟨d2, rfl⟩ : ∃ x, d2 = x + 1 := ⟨d2 - 1, by omega⟩
    have hs : t.size = t.toList.length := by simp
    rw [hd] at hs
    have h0 : t.getD 0 0 = 46 := by
      have := getD_drop t 0 0
      simp only [Nat.add_zero, List.drop_zero] at this
      rw [this, hd]; simp [rowsT, List.replicate_succ]
    simp [rowsT] at hs
    have hh : hitA t t.size (0 + 0) = true := by
      simp only [hitA, bolA, Nat.add_zero, h0, show decide (0 < t.size) = true by simp; omega]; simp
    obtain ⟨sn, e⟩ := A_start (text := t) (lim := t.size) (s := 0) (by omega)
    obtain ⟨n, f, sn', hn, e2⟩ := A_find (text := t) (lim := t.size) 0 0 true sn (fun j hj => by omega) hh
    have hd' : t.toList.drop 1 = List.replicate d2 46 ++ ([13, 10] ++ rowsT rs) := by
      rw [hd]; simp [rowsT, List.replicate_succ]
    have hb' : bolA t 1 = false := by simp only [bolA, Nat.sub_self, h0]; simp
    obtain ⟨ms, hc, hml, ho⟩ := chainA t hz rs d2 1 (by omega) hd' hb' (fun r hr' => hr r (.tail _ hr'))
    refine ⟨(0, 1) :: ms, .cons 0 _ _ n _ ms (by omega) (by rw [e, e2]) rfl rfl rfl (by omega) (by omega) (by omega) hc, by simp [hml], ?_⟩
    rw [outL, ho]
    simp [rowsT, List.replicate_succ]
end Mine

-- part Q
section
namespace Mine
section
variable {prog : Program} {w : World} {A : Around} {E : Value → Shared → Prop} {s : Shared} {h₀ h : Heap} {L : Addr} {m : Str → Option Value} {news : List (Addr × Obj)}
theorem getMethod_re {P CT : Addr} {code : Array Nat} {pl : Sem Bool} {Q : Value × List Value → Shared → Prop} (hp : PatAt h₀ P CT code) (F : Fr h₀ L s.heap m) (h : Q (.builtin "re.Pattern.sub", [.ref P]) s) : wpAny (model prog w) A (getMethod (.ref P) "sub" pl) Q E s := by
  obtain ⟨po, co, fs, items, nc, a1, a2, a3, a4, a5, a6, a7, a8, a9, a10⟩ := (hp.keeps F.keep).at'
  exact getMethod_builtin ⟨po, a1, a2⟩ plainAttrs_re slot_re_sub type_re_sub (fun a e => by cases e; exact ⟨po, a1, a3⟩) h
end
local macro_rules | `(tactic| walk_at "getMethod ref") => `(tactic| (k_here; (with_reducible show wpAny _ _ (getMethod (Value.ref _) (Str.ofString "sub") _) _ _ _); k_dflt (refine' getMethod_re ?k1 ?k2 ?_; (case k1 => assumption); (case k2 => assumption); k_whole)))
theorem rowsT_len (c : Nat) : ∀ rs : List (Nat × List Nat), (∀ r ∈ rs, 1 ≤ r.1 ∧ EndOk r.2) → (rowsT (rs.map fun r => (r.1 + c, [13, 10]))).length ≤ (rowsT rs).length + (c + 1) * rs.length
  | [], _ => by simp [rowsT]
  | (d, e) :: rs, h => by
    have ih := rowsT_len c rs (fun r hr => h r (.tail _ hr))
    have he := (h _ (.head _)).2
    have hl : 1 ≤ e.length := by rcases he with rfl | rfl | rfl <;> simp
    simp only [List.map_cons, rowsT, List.length_append, List.length_replicate, List.length_cons, List.length_nil, Nat.mul_add, Nat.mul_one] at ih ⊢
    omega
theorem quote_call (w : World) (x : Str) (t : Tok) (rs : List (Nat × List Nat)) (hx : x.cps.toList = rowsT rs) (hr : ∀ r ∈ rs, 1 ≤ r.1 ∧ EndOk r.2) (hne : rs ≠ []) (hz : (rowsT rs).length ≤ 2 ^ 18) (hl : rs.length ≤ 2 ^ 16) :
    Call w 2 100 (.ref 124) [.str x t] [] (StrP (rowsT (rs.map fun r => (r.1 + 1, [13, 10]))) []) := by
  unfold Call
  intro p loose mean mg mb dp un gd cn cs b ccd cl outer A₀ base h₀ L m s Q E B F X C N T hcs hd hu hret
  ((k_dflt (refine' code_defK ?k1 ?k2 ?k3 ?kC ?k4 ?k5 ?kA ?kF ?kK ?k6 ?k7 ?k8 ?k9 ?kB ?_ ?c2 ?c3 ?c4 ?c5; (case kA => exact rfl); (case kF => exact rfl); (case kK => assumption); (case k1 => k_asm); (case k2 => k_asm); (case k3 => k_asm); (case kC => k_asm); (case k4 => k_asm); (case k5 => k_asm); (case k6 => k_is); (case k7 => k_is); (case k8 => k_room); (case k9 => first | exact BindsTo.of_eq rfl | (refine' kp_binds ?kx ?ke; (case kx => k_in); (case ke => exact fun _ => rfl))); (case c5 => decide); (case kB => exact locs rfl); (case c2 => exact rfl); (case c3 => exact rfl); (case c4 => exact rfl); k_whole)))
  intro g' L' h' FG' F' N' B' X' T' C' Kg l1
  change Fr g' L' h' (fun y => List.lookup y [(Str.ofString "data", Value.str x t)]) at F'
  have hp1 : PatAt g' 112 111 codeA := ⟨_, _, _, _, _, X' _ _ (by k_is), rfl, rfl, rfl, rfl, rfl, rfl, X' _ _ (by k_is), rfl, by decide +kernel⟩
  have hp2 : PatAt g' 117 116 codeB := ⟨_, _, _, _, _, X' _ _ (by k_is), rfl, rfl, rfl, rfl, rfl, rfl, X' _ _ (by k_is), rfl, by decide +kernel⟩
  (try dsimp only); (try k_fold)
  (repeat' (first | (k_unfold; (try dsimp only)) | (k_end; wrow_close) | ((((fail_if_success (with_reducible show wpAny _ _ (exec (Stmt.For _ _ _ _ _) _) _ _ _)); (fail_if_success (with_reducible show wpAny _ _ (exec (Stmt.While _ _ _ _) _) _ _ _)); (fail_if_success (with_reducible show Exists _)); (fail_if_success (with_reducible show wpAny _ _ (eval (Expr.ListComp _ _ _ _) _) _ _ _)); (fail_if_success (with_reducible show LCg.CompSrc _ _ _ _ _ _ _ _ _ _ _ _ _ _)); (fail_if_success (with_reducible show LCt.CompSrcT _ _ _ _ _ _ _ _ _ _ _ _ _ _ _)); (fail_if_success ((with_reducible refine stopAt ?gdK ?gdH); (case gdK => exact rfl))))); (try (rename News _ _ _ _ => nN; dsimp only at nN)); walk1) | ((((fail_if_success (with_reducible show wpAny _ _ (exec (Stmt.For _ _ _ _ _) _) _ _ _)); (fail_if_success (with_reducible show wpAny _ _ (exec (Stmt.While _ _ _ _) _) _ _ _)); (fail_if_success (with_reducible show Exists _)); (fail_if_success (with_reducible show wpAny _ _ (eval (Expr.ListComp _ _ _ _) _) _ _ _)); (fail_if_success (with_reducible show LCg.CompSrc _ _ _ _ _ _ _ _ _ _ _ _ _ _)); (fail_if_success (with_reducible show LCt.CompSrcT _ _ _ _ _ _ _ _ _ _ _ _ _ _ _)); (fail_if_success ((with_reducible refine stopAt ?gdK ?gdH); (case gdK => exact rfl))))); dsimp only; walk1) | (leave1; walk_say "STEP leave1"; try dsimp only) | fail "no step"))
  have hxl : x.length = (rowsT rs).length := by rw [← hx]; simp [Str.length]
  have hxz : x.cps.size = (rowsT rs).length := by rw [← hx]; simp
  have hlB := rowsT_len 0 rs hr
  have hlA := rowsT_len 1 rs hr
  obtain ⟨ms, hc, hml, ho⟩ := chainB x.cps (by omega) rs 0 (Nat.zero_le _) (by rw [List.drop_zero, hx]) hr
  simp only [Nat.add_zero] at hlB
  rename News _ _ _ _ => NN
  rename Fr _ _ _ _ => FF
  k_here
  k_dflt (refine' call_sub (code := codeB) (CT := 116) (ms := ms) ?k1 ?k2 hp2 ?k3 ?k4 hc ?k5 ?k6 ?_; (case k1 => exact FF); (case k2 => exact NN); (case k3 => omega); (case k4 => decide +kernel); (case k5 => omega); (case k6 => (rw [show (Str.ofString "\x0d\n").cps.toList = [13, 10] from by decide +kernel, ho]; omega)); k_whole)
  intro y t2 h2 tk2 hy F2 N2
  clear FF NN
  rw [show (Str.ofString "\x0d\n").cps.toList = [13, 10] from by decide +kernel, ho] at hy
  (try dsimp only); (try k_fold)
  (repeat' (first | (k_unfold; (try dsimp only)) | (k_end; wrow_close) | ((((fail_if_success (with_reducible show wpAny _ _ (exec (Stmt.For _ _ _ _ _) _) _ _ _)); (fail_if_success (with_reducible show wpAny _ _ (exec (Stmt.While _ _ _ _) _) _ _ _)); (fail_if_success (with_reducible show Exists _)); (fail_if_success (with_reducible show wpAny _ _ (eval (Expr.ListComp _ _ _ _) _) _ _ _)); (fail_if_success (with_reducible show LCg.CompSrc _ _ _ _ _ _ _ _ _ _ _ _ _ _)); (fail_if_success (with_reducible show LCt.CompSrcT _ _ _ _ _ _ _ _ _ _ _ _ _ _ _)); (fail_if_success ((with_reducible refine stopAt ?gdK ?gdH); (case gdK => exact rfl))))); (try (rename News _ _ _ _ => nN; dsimp only at nN)); walk1) | ((((fail_if_success (with_reducible show wpAny _ _ (exec (Stmt.For _ _ _ _ _) _) _ _ _)); (fail_if_success (with_reducible show wpAny _ _ (exec (Stmt.While _ _ _ _) _) _ _ _)); (fail_if_success (with_reducible show Exists _)); (fail_if_success (with_reducible show wpAny _ _ (eval (Expr.ListComp _ _ _ _) _) _ _ _)); (fail_if_success (with_reducible show LCg.CompSrc _ _ _ _ _ _ _ _ _ _ _ _ _ _)); (fail_if_success (with_reducible show LCt.CompSrcT _ _ _ _ _ _ _ _ _ _ _ _ _ _ _)); (fail_if_success ((with_reducible refine stopAt ?gdK ?gdH); (case gdK => exact rfl))))); dsimp only; walk1) | (leave1; walk_say "STEP leave1"; try dsimp only) | fail "no step"))
  have hr2 : ∀ r ∈ rs.map (fun r => (r.1, [13, 10])), 1 ≤ r.1 ∧ r.2 = [13, 10] := by
    intro r hr'
    obtain ⟨r', h1, rfl⟩ := List.mem_map.mp hr'
    exact ⟨(hr r' h1).1, rfl⟩
  have hyz : y.cps.size = (rowsT (rs.map fun r => (r.1, [13, 10]))).length := by rw [← hy]; simp
  have hyl : y.length = (rowsT (rs.map fun r => (r.1, [13, 10]))).length := by rw [← hy]; simp [Str.length]
  obtain ⟨ms2, hc2, hml2, ho2⟩ := chainA0 y.cps (by omega) (rs.map fun r => (r.1, [13, 10])) (by simpa using hne) hy hr2
  rw [List.map_map] at ho2
  simp only [List.length_map] at hml2
  rename News _ _ _ _ => NN
  rename Fr _ _ _ _ => FF
  k_here
  k_dflt (refine' call_sub (code := codeA) (CT := 111) (ms := ms2) ?k1 ?k2 hp1 ?k3 ?k4 hc2 ?k5 ?k6 ?_; (case k1 => exact FF); (case k2 => exact NN); (case k3 => omega); (case k4 => decide +kernel); (case k5 => omega); (case k6 => (rw [show (Str.ofString "..").cps.toList = [46, 46] from by decide +kernel, ho2]; exact Nat.le_trans hlA (by omega))); k_whole)
  intro z t3 h3 tk3 hz3 F3 N3
  clear FF NN
  rw [show (Str.ofString "..").cps.toList = [46, 46] from by decide +kernel, ho2] at hz3
  (try dsimp only); (try k_fold)
  (repeat' (first | (k_unfold; (try dsimp only)) | (k_end; wrow_close) | ((((fail_if_success (with_reducible show wpAny _ _ (exec (Stmt.For _ _ _ _ _) _) _ _ _)); (fail_if_success (with_reducible show wpAny _ _ (exec (Stmt.While _ _ _ _) _) _ _ _)); (fail_if_success (with_reducible show Exists _)); (fail_if_success (with_reducible show wpAny _ _ (eval (Expr.ListComp _ _ _ _) _) _ _ _)); (fail_if_success (with_reducible show LCg.CompSrc _ _ _ _ _ _ _ _ _ _ _ _ _ _)); (fail_if_success (with_reducible show LCt.CompSrcT _ _ _ _ _ _ _ _ _ _ _ _ _ _ _)); (fail_if_success ((with_reducible refine stopAt ?gdK ?gdH); (case gdK => exact rfl))))); (try (rename News _ _ _ _ => nN; dsimp only at nN)); walk1) | ((((fail_if_success (with_reducible show wpAny _ _ (exec (Stmt.For _ _ _ _ _) _) _ _ _)); (fail_if_success (with_reducible show wpAny _ _ (exec (Stmt.While _ _ _ _) _) _ _ _)); (fail_if_success (with_reducible show Exists _)); (fail_if_success (with_reducible show wpAny _ _ (eval (Expr.ListComp _ _ _ _) _) _ _ _)); (fail_if_success (with_reducible show LCg.CompSrc _ _ _ _ _ _ _ _ _ _ _ _ _ _)); (fail_if_success (with_reducible show LCt.CompSrcT _ _ _ _ _ _ _ _ _ _ _ _ _ _ _)); (fail_if_success ((with_reducible refine stopAt ?gdK ?gdH); (case gdK => exact rfl))))); dsimp only; walk1) | (leave1; walk_say "STEP leave1"; try dsimp only) | fail "no step"))
  rename News _ _ _ _ => NE
  exact hret _ _ _ _ ⟨z, t3, rfl, hz3, rfl⟩ (by assumption) NE (Keep.fr Kg (by assumption)) (Fresh.same rfl)
end Mine
end

-- part For
section
open PySem.Calls
namespace Mine
abbrev rgI (x left : Int) : Obj := { cls := .type "range_iterator", dict := none, data := .fields #[rawInt x, rawInt left, rawInt 1], slots := #[] }
abbrev liI (l : Addr) (i : Nat) : Obj := { cls := .type "list_iterator", data := .fields #[.ref l, .int i 0] }
section
variable {prog : Program} {w : World} {A : Around} {E : Value → Shared → Prop} {s : Shared} {h₀ h : Heap} {L D : Addr} {m : Str → Option Value} {news news' : List (Addr × Obj)}
theorem fr_ext {IT : Addr} {o : Obj} {h' : Heap} (F : Fr h₀ L h m) (N : News h₀ L h ((IT, o) :: news)) (hs : Heap.ExtBut IT h h') : Fr h₀ L h' m :=
  PyProof.Rows.LCg.fr_but F (fun b o hb e => hs b o (by simpa using hb) e) (N _ (.head _)).2.1.symm (N _ (.head _)).2.2
theorem news_ext {IT : Addr} {o : Obj} {h' : Heap} (N : News h₀ L h ((IT, o) :: news)) (hne : ∀ p ∈ news, p.1 ≠ IT) (hs : Heap.ExtBut IT h h') : News h₀ L h' news :=
  PyProof.Rows.LCg.news_but (fun q hq => N q (.tail _ hq)) (fun b o hb e => hs b o (by simpa using hb) e) hne
theorem fr_kept {h' : Heap} (F : Fr h₀ L h m) (hk : ∀ b o, h.get? b = some o → h'.get? b = some o) : Fr h₀ L h' m := ⟨F.ns.at' fun o e => hk L o e, fun b o e => hk b o (F.keep b o e), F.above⟩
theorem news_kept {h' : Heap} (N : News h₀ L h news) (hk : ∀ b o, h.get? b = some o → h'.get? b = some o) : News h₀ L h' news := fun p hp => ⟨hk _ _ (N p hp).1, (N p hp).2⟩
theorem range_iter {r : Addr} {a b n : Int} {t u v : Tok} {Q : Value → Shared → Prop} (F : Fr h₀ L s.heap m) (N : News h₀ L s.heap news) (hr : IsRange s.heap r a b 1 t u v) (h1 : -(2 ^ 60) ≤ a ∧ a < 2 ^ 60 ∧ -(2 ^ 60) ≤ b ∧ b < 2 ^ 60) (hn : b - a = n) (h0 : 0 ≤ n)
    (h : ∀ IT h', Fr h₀ L h' m → News h₀ L h' ((IT, rgI a n) :: news) → (∀ p ∈ news, p.1 < IT) → Q (.ref IT) { s with heap := h' }) : wpAny (model prog w) A (pyIter (.ref r)) Q E s := by
  obtain ⟨a1, a2, a3, a4⟩ := h1
  refine wpAny_pyIter_range hr (small_one (by omega) (by omega) (by omega) (by omega)) ?_
  have e : Builtin.Range.rangeSize a b 1 = n := by rw [rangeSize_one]; split <;> omega
  rw [e]
  exact h _ _ (F.push _) (News.push F N _) (fun p hp => Heap.lt_size (N p hp).1)
theorem range_next {IT : Addr} {x left : Int} {Q : Option Value → Shared → Prop} (hh : A.handled = none) (F : Fr h₀ L s.heap m) (N : News h₀ L s.heap ((IT, rgI x left) :: news)) (hne : ∀ p ∈ news, p.1 ≠ IT)
    (h : 0 < left → ∀ h', Fr h₀ L h' m → News h₀ L h' ((IT, rgI (x + 1) (left - 1)) :: news) → Q (some (.int x s.toks)) { s with heap := h', toks := s.toks + 1 })
    (hend : left ≤ 0 → ∀ h', Fr h₀ L h' m → News h₀ L h' news → Q none { s with heap := h' }) : wpAny (model prog w) A (pyNext (.ref IT)) Q E s := by
  have z := N _ (.head _)
  by_cases hl : 0 < left
  · exact wpAny_pyNext_range_item z.1 hl fun h' hit hs => h hl h' (F.change hs z.2.1 z.2.2) (N.setHead hne hs hit)
  · exact wpAny_pyNext_range_end hh z.1 (by omega) fun h' hs => hend (by omega) h' (fr_ext F N hs) (news_ext N hne hs)
theorem list_iter {Q : Value → Shared → Prop} {its : Array Value} {n : Nat} (F : Fr h₀ L s.heap m) (N : News h₀ L s.heap news) (hm : (D, W.listOf its n) ∈ news)
    (h : ∀ IT h', Fr h₀ L h' m → News h₀ L h' ((IT, liI D 0) :: news) → (∀ p ∈ news, p.1 < IT) → Q (.ref IT) { s with heap := h' }) : wpAny (model prog w) A (pyIter (.ref D)) Q E s :=
  wpAny_pyIter_list ⟨_, N.get hm, rfl, n, rfl⟩ (h _ _ (F.push _) (News.push F N _) (fun p hp => Heap.lt_size (N p hp).1))

def LiO (l : Addr) (i : Nat) (o : Obj) : Prop := o.cls = .type "list_iterator" ∧ o.data = .fields #[.ref l, .int i 0]
theorem LiO.start (l : Addr) : LiO l 0 (liI l 0) := ⟨rfl, rfl⟩
theorem list_next {IT : Addr} {i n : Nat} {o : Obj} {its : Array Value} {Q : Option Value → Shared → Prop} (hh : A.handled = none) (F : Fr h₀ L s.heap m) (N : News h₀ L s.heap ((IT, o) :: news)) (ho : LiO D i o) (hne : ∀ p ∈ news, p.1 ≠ IT) (hl : (D, W.listOf its n) ∈ news)
    (h : ∀ x, its[i]? = some x → ∀ o' h', LiO D (i + 1) o' → Fr h₀ L h' m → News h₀ L h' ((IT, o') :: news) → Q (some x) { s with heap := h' })
    (hend : its[i]? = none → ∀ h', Fr h₀ L h' m → News h₀ L h' news → Q none { s with heap := h' }) : wpAny (model prog w) A (pyNext (.ref IT)) Q E s := by
  have z := N _ (.head _)
  have hit : s.heap.IsListIter IT D i := ⟨o, z.1, ho.1, ho.2⟩
  have hls : s.heap.IsList D its := ⟨_, (N _ (.tail _ hl)).1, rfl, n, rfl⟩
  cases e : its[i]? with
  | none => exact wpAny_pyNext_list_end hh hit hls e fun h' hs => hend e h' (fr_ext F N hs) (news_ext N hne hs)
  | some x =>
    refine wpAny_pyNext_list_item hit hls e fun h' hit' hs => ?_
    obtain ⟨o', g1, g2, g3⟩ := hit'
    exact h x e o' h' ⟨g2, g3⟩ (F.change hs z.2.1 z.2.2) (N.setHead hne hs g1)
end
end Mine
end

local macro_rules | `(tactic| walk_at "pyIter ref") => `(tactic| (k_here; k_dflt (first
  | (refine' range_iter ?k1 ?k2 ?k3 ?k4 ?k5 ?k6 ?_; (case k3 => assumption); (case k1 => assumption); (case k2 => assumption); (case k5 => exact rfl); (case k4 => (refine ⟨by omega, by omega, by omega, by omega⟩)); (case k6 => omega); k_whole)
  | (refine' list_iter ?k1 ?k2 ?k3 ?_; (case k1 => k_asm); (case k2 => k_asm); (case k3 => k_mem); k_whole)); intro IT' h' F' N' l1; (try k_lt l1)))

-- part TX
namespace Mine
theorem fold_flat (l : List (Array Nat)) : ∀ a : Array Nat, (l.foldl (· ++ ·) a).toList = a.toList ++ (l.map (·.toList)).flatten := by
  induction l with
  | nil => intro a; simp
  | cons x l ih => intro a; rw [List.foldl_cons, ih]; simp
theorem mul_list (x : Str) (n : Nat) : (Txt.mul x (n : Int)).cps.toList = (List.replicate n x.cps.toList).flatten := by
  unfold Txt.mul
  split
  · have : n = 0 := by omega
    subst this; rfl
  · split
    · rename_i h
      rw [Bool.or_eq_true, beq_iff_eq, beq_iff_eq] at h
      rcases h with h | h
      · have : n = 1 := by omega
        subst this; simp
      · have e : x.cps.toList = [] := List.length_eq_zero_iff.mp (by simpa [Str.length] using h)
        rw [e]; simp
    · rw [fold_flat]; simp
theorem flat_rep (n c : Nat) : (List.replicate n [c]).flatten = List.replicate n c := by
  induction n with
  | zero => rfl
  | succ n ih => rw [List.replicate_succ, List.flatten_cons, ih, List.replicate_succ]; rfl
theorem mul_one (x : Str) (c : Nat) (hx : x.cps.toList = [c]) (n : Nat) : (Txt.mul x (n : Int)).cps.toList = List.replicate n c := by
  rw [mul_list, hx, flat_rep]
theorem len_toList (x : Str) : x.length = x.cps.toList.length := by simp [Str.length]
theorem app_toList (x y : Str) : (x ++ y).cps.toList = x.cps.toList ++ y.cps.toList := by
  show (x.cps ++ y.cps).toList = _
  simp
section
variable {prog : Program} {w : World} {A A₀ : Around} {E : Value → Shared → Prop} {s : Shared}
theorem truthyS {x : Str} {t : Tok} {Q : Bool → Shared → Prop} (hx : 0 < x.length) (hz : x.length < 2 ^ 20) (h : Q true { s with toks := s.toks + 1 + 1 }) : wpAny (model prog w) A (truthy (.str x t)) Q E s := by
  refine P.truthy_str (by omega) ?_
  rw [show ((x.length : Int) != 0) = true by rw [bne_iff_ne]; omega]
  exact h
end
/-- a list whose texts are known, with its ends apart -/
theorem ends_of {l : List (Str × Tok)} {p0 pl : Str} {mid : List Str} (h : l.map (·.1) = p0 :: (mid ++ [pl])) : ∃ t0 lm tl, l = (p0, t0) :: (lm ++ [(pl, tl)]) ∧ lm.map (·.1) = mid := by
  cases l with
  | nil => cases h
  | cons q l =>
    obtain ⟨a, t0⟩ := q
    simp only [List.map_cons, List.cons.injEq] at h
    obtain ⟨rfl, h⟩ := h
    rcases List.eq_nil_or_concat l with rfl | ⟨lm, q, rfl⟩
    · simp at h
    · simp only [List.concat_eq_append, List.map_append, List.map_cons, List.map_nil] at h
      have h1 := List.append_inj' h (by simp)
      obtain ⟨e1, e2⟩ := h1
      simp only [List.cons.injEq, and_true] at e2
      obtain ⟨b, tl⟩ := q
      simp only at e2
      subst e2
      exact ⟨t0, lm, tl, by simp, e1⟩
section
variable {prog : Program} {w : World} {A A₀ : Around} {E : Value → Shared → Prop} {s : Shared} {h₀ : Heap} {L D : Addr} {m : Str → Option Value} {news news' : List (Addr × Obj)} {n : Nat}
theorem del0 {v : Value} {vs : List Value} {u : Tok} {Q : Unit → Shared → Prop} (F : Fr h₀ L s.heap m) (N : News h₀ L s.heap news) (U : Upd D (W.listOf (v :: vs).toArray n) (W.listOf vs.toArray (n + 1)) news news') (hz : vs.length < 2 ^ 20)
    (h : ∀ h', Fr h₀ L h' m → News h₀ L h' news' → Q () { s with heap := h' }) : wpAny (model prog w) A (delItem (.ref D) (.int 0 u)) Q E s :=
  ki_del (k := 0) F N rfl (by simp [seqIndex?]) rfl U (by rw [sizeLine_eq]; simp; omega) h
theorem delL_last (v : Value) : ∀ vs : List Value, ki_delL (vs ++ [v]) vs.length = some vs
  | [] => rfl
  | x :: vs => by simp [ki_delL, delL_last v vs]
theorem delLast {v : Value} {vs : List Value} {u : Tok} {Q : Unit → Shared → Prop} (F : Fr h₀ L s.heap m) (N : News h₀ L s.heap news) (U : Upd D (W.listOf (vs ++ [v]).toArray n) (W.listOf vs.toArray (n + 1)) news news') (hz : vs.length < 2 ^ 20)
    (h : ∀ h', Fr h₀ L h' m → News h₀ L h' news' → Q () { s with heap := h' }) : wpAny (model prog w) A (delItem (.ref D) (.int (-1) u)) Q E s :=
  ki_del (k := vs.length) F N rfl (by simp [seqIndex?]; omega) (by simpa using delL_last v vs) U (by rw [sizeLine_eq]; simp; omega) h
end
def find3 (x y : Str) (i j : Int) : Int := match Builtin.Str.occurrences x y (fromIndex x.length i) (min (fromIndex x.length j) x.length) 1 with | k :: _ => (k : Int) | [] => -1
theorem gives_find3 (x y : Str) (i j : Int) (t u v v' : Tok) : Gives (Builtin.«str.find» ⟨[.str x t, .str y u, .int i v, .int j v'], []⟩) (.int (find3 x y i j)) := by
  show Gives (match Builtin.Str.occurrences x y (fromIndex x.length i) (min (fromIndex x.length j) x.length) 1 with | k :: _ => retInt k | [] => (do rule "str.find.not-found"; retInt (-1))) _
  unfold find3
  cases Builtin.Str.occurrences x y (fromIndex x.length i) (min (fromIndex x.length j) x.length) 1 with
  | nil => exact .rule (.of_eq rfl)
  | cons k _ => exact .of_eq rfl
theorem callFind3 {prog : Program} {w : World} {A : Around} {E : Value → Shared → Prop} {s : Shared} {x y : Str} {i j : Int} {t u v v' : Tok} {Q : Value → Shared → Prop} (h : Q (.int (find3 x y i j) s.toks) { s with toks := s.toks + 1 }) :
    wpAny (model prog w) A (call (.builtin "str.find") [.str x t, .str y u, .int i v, .int j v']) Q E s :=
  call_gives F.slot_str_find (typeIs_str _ _ _) F.entry_str_find (F.args_str_find_4 _ _ _ _) (gives_find3 x y i j t u v v') h
/-- the pieces, one behind the other -/
def emLoop (y : Str) (e : Int) : List Str → Int → Bool
  | [], _ => true
  | p :: ps, st => if find3 y p st e < 0 then false else emLoop y e ps (find3 y p st e + (p.length : Int))
section
variable {prog : Program} {w : World} {A A₀ : Around} {E : Value → Shared → Prop} {s : Shared} {h₀ : Heap} {L : Addr} {m : Str → Option Value} {news news' : List (Addr × Obj)}
theorem addLists {l b : Addr} {vs ws : List Value} {n n' : Nat} {Q : Value → Shared → Prop} (F : Fr h₀ L s.heap m) (N : News h₀ L s.heap news) (hl : (l, W.listOf vs.toArray n) ∈ news) (hb : (b, W.listOf ws.toArray n') ∈ news) (hz : vs.length + ws.length < 2 ^ 20)
    (h : ∀ CL h', Fr h₀ L h' m → News h₀ L h' ((CL, W.listOf (vs ++ ws).toArray 0) :: news) → (∀ p ∈ news, p.1 < CL) → Q (.ref CL) { s with heap := h' }) : wpAny (model prog w) A (binaryOp .Add (.ref l) (.ref b)) Q E s := by
  have hs : sizeLine = 2 ^ 24 := rfl
  exact add_arrays (hsz := by simp; omega) F N (N.isList hl) (N.isList hb) fun h' F' N' => h _ h' F' N' (fun p hp => Heap.lt_size (N p hp).1)
end
end Mine

local macro_rules | `(tactic| walk_at "truthy str") => `(tactic| (k_here; k_dflt (refine' truthyS ?k1 ?k2 ?_; (case k1 => assumption); (case k2 => omega); k_whole)))



-- part M
namespace Mine
def endsOf (k : Nat) : List Nat := if k % 3 = 0 then [10] else if k % 3 = 1 then [13] else [13, 10]
def mailR : Nat → List Nat → List (Nat × List Nat)
  | _, [] => []
  | k, w :: ws => (w + 1, endsOf k) :: mailR (k + 1) ws
theorem mail_step {ws : List Nat} {i : Nat} (hil : i < ws.length) {x e : Str} {n : Int} (hn : n = ((ws[i] + 1 : Nat) : Int)) (he : e.cps.toList = endsOf i) (h : x.cps.toList ++ rowsT (mailR i (ws.drop i)) = rowsT (mailR 0 ws)) :
    (x ++ Txt.mul (Str.ofString ".") n ++ e).cps.toList ++ rowsT (mailR (i + 1) (ws.drop (i + 1))) = rowsT (mailR 0 ws) := by
  subst hn
  rw [← h, app_toList, app_toList, mul_one _ 46 (by decide +kernel), he, List.drop_eq_getElem_cons hil]
  simp only [mailR, rowsT, List.append_assoc]
theorem mail_len {x e : Str} {n : Int} {k i : Nat} (hn : n = ((k + 1 : Nat) : Int)) (hk : k < 100) (he : e.cps.toList.length ≤ 2) (h : x.length ≤ 200 * i) : (x ++ Txt.mul (Str.ofString ".") n ++ e).length ≤ 200 * (i + 1) := by
  subst hn
  rw [len_toList] at h ⊢
  rw [app_toList, app_toList, mul_one _ 46 (by decide +kernel)]
  simp only [List.length_append, List.length_replicate]
  omega
theorem mod3 {i : Nat} {k : Int} (h : (i : Int).fmod 3 = k) : ((i % 3 : Nat) : Int) = k := by
  rw [Int.fmod_eq_emod_of_nonneg _ (by decide)] at h; omega
/-- a moment within the mail's loop -/
inductive MaI (s : Shared) (g : Heap) (L : Addr) (WL EL : Nat) (vs : List Value) (ws : List Nat) (kw tka : Nat) (J : Addr) (k : Nat) (s1 : Shared) : Prop
  | mk (h1 : Heap) (tk1 i : Nat) (a : Int) (x : Str) (tx : Nat) (e : s1 = { s with heap := h1, toks := tk1 }) (F : FrAt g L h1 [("wishes", .ref WL), ("ends", .ref EL), ("text", .str x tx)])
    (N : News g L h1 [(J, rgI a ((ws.length : Int) - a)), (EL, W.listOf #[.str (Str.ofString "\n") tka, .str (Str.ofString "\x0d") (tka + 1), .str (Str.ofString "\x0d\n") (tka + 1 + 1)] 0), (WL, W.listOf vs.toArray kw)])
    (o : AL J [EL, WL]) (ek : k = ws.length - i) (hi : i ≤ ws.length) (ea : a = i) (hl : x.length ≤ 200 * i) (hx : x.cps.toList ++ rowsT (mailR i (ws.drop i)) = rowsT (mailR 0 ws))
theorem mail_call (w : World) (WL : Nat) (vs : List Value) (ws : List Nat) (kw : Nat) (hi : IntsAre vs (ws.map fun (x : Nat) => (x : Int))) (hw : ∀ x ∈ ws, x < 100) (hl : ws.length < 100) :
    Call w 2 200 (.ref 138) [.ref WL] [(WL, W.listOf vs.toArray kw)] (StrP (rowsT (mailR 0 ws)) [(WL, W.listOf vs.toArray kw)]) := by
  unfold Call
  intro p loose mean mg mb dp un gd cn cs b ccd cl outer A₀ base h₀ L m s Q E B F X C N T hcs hd hu hret
  ((k_dflt (refine' code_defK ?k1 ?k2 ?k3 ?kC ?k4 ?k5 ?kA ?kF ?kK ?k6 ?k7 ?k8 ?k9 ?kB ?_ ?c2 ?c3 ?c4 ?c5; (case kA => exact rfl); (case kF => exact rfl); (case kK => assumption); (case k1 => k_asm); (case k2 => k_asm); (case k3 => k_asm); (case kC => k_asm); (case k4 => k_asm); (case k5 => k_asm); (case k6 => k_is); (case k7 => k_is); (case k8 => k_room); (case k9 => first | exact BindsTo.of_eq rfl | (refine' kp_binds ?kx ?ke; (case kx => k_in); (case ke => exact fun _ => rfl))); (case c5 => decide); (case kB => exact locs rfl); (case c2 => exact rfl); (case c3 => exact rfl); (case c4 => exact rfl); k_whole)))
  intro g' L' h' FG' F' N' B' X' T' C' Kg l1
  change Fr g' L' h' (fun y => List.lookup y [(Str.ofString "wishes", Value.ref WL)]) at F'
  (try dsimp only); (try k_fold)
  (repeat' (first | (k_unfold; (try dsimp only)) | (k_end; wrow_close) | ((((fail_if_success (with_reducible show wpAny _ _ (exec (Stmt.For _ _ _ _ _) _) _ _ _)); (fail_if_success (with_reducible show wpAny _ _ (exec (Stmt.While _ _ _ _) _) _ _ _)); (fail_if_success (with_reducible show Exists _)); (fail_if_success (with_reducible show wpAny _ _ (eval (Expr.ListComp _ _ _ _) _) _ _ _)); (fail_if_success (with_reducible show LCg.CompSrc _ _ _ _ _ _ _ _ _ _ _ _ _ _)); (fail_if_success (with_reducible show LCt.CompSrcT _ _ _ _ _ _ _ _ _ _ _ _ _ _ _)); (fail_if_success ((with_reducible refine stopAt ?gdK ?gdH); (case gdK => exact rfl))))); (try (rename News _ _ _ _ => nN; dsimp only at nN)); walk1) | ((((fail_if_success (with_reducible show wpAny _ _ (exec (Stmt.For _ _ _ _ _) _) _ _ _)); (fail_if_success (with_reducible show wpAny _ _ (exec (Stmt.While _ _ _ _) _) _ _ _)); (fail_if_success (with_reducible show Exists _)); (fail_if_success (with_reducible show wpAny _ _ (eval (Expr.ListComp _ _ _ _) _) _ _ _)); (fail_if_success (with_reducible show LCg.CompSrc _ _ _ _ _ _ _ _ _ _ _ _ _ _)); (fail_if_success (with_reducible show LCt.CompSrcT _ _ _ _ _ _ _ _ _ _ _ _ _ _ _)); (fail_if_success ((with_reducible refine stopAt ?gdK ?gdH); (case gdK => exact rfl))))); dsimp only; walk1) | (leave1; walk_say "STEP leave1"; try dsimp only) | fail "no step"))
  have hml : (List.map (fun (x : Nat) => (x : Int)) ws).length = ws.length := List.length_map ..
  rename_i tka EL _ lt1 _ _ FF NN
  refine for_invO (MaI s g' L' WL EL vs ws kw tka) (fun Iv hIv => ?_) (fun Iv hIv => ?_)
  · (repeat' (first | (k_unfold; (try dsimp only)) | (k_end; wrow_close) | ((((fail_if_success (with_reducible show wpAny _ _ (exec (Stmt.For _ _ _ _ _) _) _ _ _)); (fail_if_success (with_reducible show wpAny _ _ (exec (Stmt.While _ _ _ _) _) _ _ _)); (fail_if_success (with_reducible show Exists _)); (fail_if_success (with_reducible show wpAny _ _ (eval (Expr.ListComp _ _ _ _) _) _ _ _)); (fail_if_success (with_reducible show LCg.CompSrc _ _ _ _ _ _ _ _ _ _ _ _ _ _)); (fail_if_success (with_reducible show LCt.CompSrcT _ _ _ _ _ _ _ _ _ _ _ _ _ _ _)); (fail_if_success ((with_reducible refine stopAt ?gdK ?gdH); (case gdK => exact rfl))))); (try (rename News _ _ _ _ => nN; dsimp only at nN)); walk1) | ((((fail_if_success (with_reducible show wpAny _ _ (exec (Stmt.For _ _ _ _ _) _) _ _ _)); (fail_if_success (with_reducible show wpAny _ _ (exec (Stmt.While _ _ _ _) _) _ _ _)); (fail_if_success (with_reducible show Exists _)); (fail_if_success (with_reducible show wpAny _ _ (eval (Expr.ListComp _ _ _ _) _) _ _ _)); (fail_if_success (with_reducible show LCg.CompSrc _ _ _ _ _ _ _ _ _ _ _ _ _ _)); (fail_if_success (with_reducible show LCt.CompSrcT _ _ _ _ _ _ _ _ _ _ _ _ _ _ _)); (fail_if_success ((with_reducible refine stopAt ?gdK ?gdH); (case gdK => exact rfl))))); dsimp only; walk1) | (leave1; walk_say "STEP leave1"; try dsimp only) | fail "no step"))
    rename_i IT1 h9 FE NE lt9
    rw [hml] at NE
    refine kOut0 hIv ?_
    exact ⟨IT1, ws.length, rfl, _, _, 0, 0, _, _, rfl, ⟨_, FE, rfl⟩, NE, lt9, rfl, Nat.zero_le _, rfl, by decide +kernel, rfl⟩
  · clear NN FF
    rintro J' k s1 ⟨h1, tk1, i, a, x, tx, rfl, F1, N1, o1, rfl, hi1, rfl, hxl, hxr⟩
    refine F1.use fun m1 F2 => ?_
    clear F1
    refine range_next rfl F2 N1 ?_ (fun hlt h3 F3 N3 => ?_) (fun hle h3 F3 N3 => ?_)
    · walk_at "OFF"
    · have hil : i < ws.length := ltOfSub hlt
      have hgd : (List.map (fun (x : Nat) => (x : Int)) ws).getD ((i : Int)).toNat 0 = ((ws[i] : Nat) : Int) := by
        rw [Int.toNat_natCast, List.getD_eq_getElem?_getD, List.getElem?_map, List.getElem?_eq_getElem hil]; rfl
      have hwi : ws[i] < 100 := hw _ (List.getElem_mem hil)
      clear F2 N1
      (repeat' (first | (k_unfold; (try dsimp only)) | (k_end; wrow_close) | ((((fail_if_success (with_reducible show wpAny _ _ (exec (Stmt.For _ _ _ _ _) _) _ _ _)); (fail_if_success (with_reducible show wpAny _ _ (exec (Stmt.While _ _ _ _) _) _ _ _)); (fail_if_success (with_reducible show Exists _)); (fail_if_success (with_reducible show wpAny _ _ (eval (Expr.ListComp _ _ _ _) _) _ _ _)); (fail_if_success (with_reducible show LCg.CompSrc _ _ _ _ _ _ _ _ _ _ _ _ _ _)); (fail_if_success (with_reducible show LCt.CompSrcT _ _ _ _ _ _ _ _ _ _ _ _ _ _ _)); (fail_if_success ((with_reducible refine stopAt ?gdK ?gdH); (case gdK => exact rfl))))); (try (rename News _ _ _ _ => nN; dsimp only at nN)); walk1) | ((((fail_if_success (with_reducible show wpAny _ _ (exec (Stmt.For _ _ _ _ _) _) _ _ _)); (fail_if_success (with_reducible show wpAny _ _ (exec (Stmt.While _ _ _ _) _) _ _ _)); (fail_if_success (with_reducible show Exists _)); (fail_if_success (with_reducible show wpAny _ _ (eval (Expr.ListComp _ _ _ _) _) _ _ _)); (fail_if_success (with_reducible show LCg.CompSrc _ _ _ _ _ _ _ _ _ _ _ _ _ _)); (fail_if_success (with_reducible show LCt.CompSrcT _ _ _ _ _ _ _ _ _ _ _ _ _ _ _)); (fail_if_success ((with_reducible refine stopAt ?gdK ?gdH); (case gdK => exact rfl))))); dsimp only; walk1) | (leave1; walk_say "STEP leave1"; try dsimp only) | fail "no step"))
      all_goals
        rename (Int.fmod _ 3 = _) => hf
        have hf3 := mod3 hf
        rename News _ _ _ _ => NE
        rename Fr _ _ _ _ => FE
        refine kOut hIv ?_
        refine ⟨ws.length - (i + 1), nsubS hil, _, _, i + 1, (i : Int) + 1, _, _, rfl, ⟨_, FE, rfl⟩, ?_, o1, rfl, hil, rfl, mail_len (k := ws[i]) (by rw [hgd]; rfl) hwi (by decide +kernel) hxl, mail_step hil (by rw [hgd]; rfl) (by simp only [endsOf]; first | rw [if_pos (by omega)]; decide +kernel | rw [if_neg (by omega), if_pos (by omega)]; decide +kernel | rw [if_neg (by omega), if_neg (by omega)]; decide +kernel) hxr⟩
        rw [isubS]
        exact NE
    · have hie : i = ws.length := eqOfSub hle hi1
      clear F2 N1
      (repeat' (first | (k_unfold; (try dsimp only)) | (k_end; wrow_close) | ((((fail_if_success (with_reducible show wpAny _ _ (exec (Stmt.For _ _ _ _ _) _) _ _ _)); (fail_if_success (with_reducible show wpAny _ _ (exec (Stmt.While _ _ _ _) _) _ _ _)); (fail_if_success (with_reducible show Exists _)); (fail_if_success (with_reducible show wpAny _ _ (eval (Expr.ListComp _ _ _ _) _) _ _ _)); (fail_if_success (with_reducible show LCg.CompSrc _ _ _ _ _ _ _ _ _ _ _ _ _ _)); (fail_if_success (with_reducible show LCt.CompSrcT _ _ _ _ _ _ _ _ _ _ _ _ _ _ _)); (fail_if_success ((with_reducible refine stopAt ?gdK ?gdH); (case gdK => exact rfl))))); (try (rename News _ _ _ _ => nN; dsimp only at nN)); walk1) | ((((fail_if_success (with_reducible show wpAny _ _ (exec (Stmt.For _ _ _ _ _) _) _ _ _)); (fail_if_success (with_reducible show wpAny _ _ (exec (Stmt.While _ _ _ _) _) _ _ _)); (fail_if_success (with_reducible show Exists _)); (fail_if_success (with_reducible show wpAny _ _ (eval (Expr.ListComp _ _ _ _) _) _ _ _)); (fail_if_success (with_reducible show LCg.CompSrc _ _ _ _ _ _ _ _ _ _ _ _ _ _)); (fail_if_success (with_reducible show LCt.CompSrcT _ _ _ _ _ _ _ _ _ _ _ _ _ _ _)); (fail_if_success ((with_reducible refine stopAt ?gdK ?gdH); (case gdK => exact rfl))))); dsimp only; walk1) | (leave1; walk_say "STEP leave1"; try dsimp only) | fail "no step"))
      rename News h₀ _ _ _ => NE
      subst hie
      rw [List.drop_length, mailR, rowsT, List.append_nil] at hxr
      exact hret _ _ _ _ ⟨x, tx, rfl, hxr, rfl⟩ (by assumption) (newsSub NE (by (first | exact subI | (((try dsimp only [lexM, lexO, rdM, rdP, lexD, strD, List.cons_append, List.nil_append])); first | walk_at "ALLIN" | walk_at "SUBALL")))) (Keep.fr Kg (by assumption)) (Fresh.same rfl)
end Mine

-- part EM
namespace Mine
/-- a moment within the ellipsis' loop -/
inductive EmI (y pl p0 : Str) (ty : Nat) (mid : List Str) (lm : List (Str × Tok)) (s : Shared) (g : Heap) (L : Addr) (WS : Nat) (J : Addr) (k : Nat) (s1 : Shared) : Prop
  | mk (o : Obj) (h1 : Heap) (tk1 i : Nat) (st : Int) (ts te : Nat) (e : s1 = { s with heap := h1, toks := tk1 }) (F : FrAt g L h1 [("got", .str y ty), ("startpos", .int st ts), ("endpos", .int ((y.length : Int) - (pl.length : Int)) te)])
    (N : News g L h1 [(J, o), (WS, W.listOf (strValues lm).toArray (1 + 1))]) (hlo : LiO WS i o) (o1 : AL J [WS]) (ek : k = lm.length - i) (hi : i ≤ lm.length)
    (hem : emLoop y ((y.length : Int) - (pl.length : Int)) (mid.drop i) st = emLoop y ((y.length : Int) - (pl.length : Int)) mid (p0.length : Int))
theorem strGet {lm : List (Str × Tok)} {i : Nat} {v : Value} (hv : (strValues lm).toArray[i]? = some v) : ∃ h : i < lm.length, v = .str (lm[i]).1 (lm[i]).2 := by
  have hil : i < lm.length := by
    rcases Nat.lt_or_ge i lm.length with h | h
    · exact h
    · simp [strValues, h] at hv
  refine ⟨hil, ?_⟩
  simp [strValues, hil] at hv; exact hv.symm
theorem strEnd {lm : List (Str × Tok)} {i : Nat} (hn : (strValues lm).toArray[i]? = none) (hi : i ≤ lm.length) : i = lm.length := by
  rcases Nat.lt_or_ge i lm.length with h | h
  · simp [strValues, h] at hn
  · omega
theorem midDrop {mid : List Str} {lm : List (Str × Tok)} {i : Nat} (hmid : lm.map (·.1) = mid) (hil : i < lm.length) : mid.drop i = (lm[i]).1 :: mid.drop (i + 1) := by
  rw [← hmid, List.drop_eq_getElem_cons (by simpa using hil)]; simp
theorem em_call (w : World) (x y : Str) (tx ty : Tok) (hx : x.length < 10000) (hy : y.length < 10000) (p0 pl : Str) (mid : List Str) (hc : (Builtin.Str.occurrences x (Str.ofString "...") 0 x.length 1).isEmpty = false) (hsp : Txt.split x (Str.ofString "...") = p0 :: (mid ++ [pl])) (h0 : 0 < p0.length) (hl : 0 < pl.length) (hew : Txt.endswith y pl = true) (hpp : p0.length + pl.length ≤ y.length) (hml : mid.length < 1000) :
    Call w 2 200 (.ref 65) [.str x tx, .str y ty] [] (fun r post => r = .bool (Txt.startswith y p0 && emLoop y ((y.length : Int) - (pl.length : Int)) mid (p0.length : Int)) ∧ post = []) := by
  unfold Call
  intro p loose mean mg mb dp un gd cn cs b ccd cl outer A₀ base h₀ L m s Q E B F X C N T hcs hd hu hret
  ((k_dflt (refine' code_defK ?k1 ?k2 ?k3 ?kC ?k4 ?k5 ?kA ?kF ?kK ?k6 ?k7 ?k8 ?k9 ?kB ?_ ?c2 ?c3 ?c4 ?c5; (case kA => exact rfl); (case kF => exact rfl); (case kK => assumption); (case k1 => k_asm); (case k2 => k_asm); (case k3 => k_asm); (case kC => k_asm); (case k4 => k_asm); (case k5 => k_asm); (case k6 => k_is); (case k7 => k_is); (case k8 => k_room); (case k9 => first | exact BindsTo.of_eq rfl | (refine' kp_binds ?kx ?ke; (case kx => k_in); (case ke => exact fun _ => rfl))); (case c5 => decide); (case kB => exact locs rfl); (case c2 => exact rfl); (case c3 => exact rfl); (case c4 => exact rfl); k_whole)))
  intro g' L' h' FG' F' N' B' X' T' C' Kg l1
  change Fr g' L' h' (fun z => List.lookup z [(Str.ofString "got", Value.str y ty), (Str.ofString "want", Value.str x tx)]) at F'
  (try dsimp only); (try k_fold)
  (repeat' (first | (k_unfold; (try dsimp only)) | (k_end; wrow_close) | ((((fail_if_success (with_reducible show wpAny _ _ (exec (Stmt.For _ _ _ _ _) _) _ _ _)); (fail_if_success (with_reducible show wpAny _ _ (exec (Stmt.While _ _ _ _) _) _ _ _)); (fail_if_success (with_reducible show Exists _)); (fail_if_success (with_reducible show wpAny _ _ (eval (Expr.ListComp _ _ _ _) _) _ _ _)); (fail_if_success (with_reducible show LCg.CompSrc _ _ _ _ _ _ _ _ _ _ _ _ _ _)); (fail_if_success (with_reducible show LCt.CompSrcT _ _ _ _ _ _ _ _ _ _ _ _ _ _ _)); (fail_if_success ((with_reducible refine stopAt ?gdK ?gdH); (case gdK => exact rfl))))); (try (rename News _ _ _ _ => nN; dsimp only at nN)); walk1) | ((((fail_if_success (with_reducible show wpAny _ _ (exec (Stmt.For _ _ _ _ _) _) _ _ _)); (fail_if_success (with_reducible show wpAny _ _ (exec (Stmt.While _ _ _ _) _) _ _ _)); (fail_if_success (with_reducible show Exists _)); (fail_if_success (with_reducible show wpAny _ _ (eval (Expr.ListComp _ _ _ _) _) _ _ _)); (fail_if_success (with_reducible show LCg.CompSrc _ _ _ _ _ _ _ _ _ _ _ _ _ _)); (fail_if_success (with_reducible show LCt.CompSrcT _ _ _ _ _ _ _ _ _ _ _ _ _ _ _)); (fail_if_success ((with_reducible refine stopAt ?gdK ?gdH); (case gdK => exact rfl))))); dsimp only; walk1) | (leave1; walk_say "STEP leave1"; try dsimp only) | fail "no step"))
  rotate_left
  · rename (List.map _ _ = Txt.split _ _) => hlook
    rename (¬ (2 : Int) ≤ _) => hlen
    rw [hsp] at hlook
    have := congrArg List.length hlook
    simp at this
    exact absurd (by omega) hlen
  rename_i tk2 ls h6 k2 hlook st3 st4 isl h5 tk5 ge2 tk6 TP h4 lt4 h3 h2 h1 yy ty2 hy0 hh FF NN
  rw [hsp] at hlook
  obtain ⟨t0, lm, tl, rfl, hmid⟩ := ends_of hlook
  dsimp only at NN FF
  simp only [List.map_cons, show Int.toNat 0 = 0 from rfl, List.getElem?_cons_zero, Option.some.injEq] at hy0
  subst hy0
  have hp0l := st4 p0 (by simp)
  have hpll := st4 pl (by simp)
  have hmdl : ∀ a ∈ mid, a.length ≤ x.length := fun a ha => st4 a (by rw [hlook]; simp [ha])
  have lt5 : AL TP [h'.objs.size] := lt4
  generalize h'.objs.size = WS at *
  clear st3 st4 isl ge2 lt4
  (repeat' (first | (k_unfold; (try dsimp only)) | (k_end; wrow_close) | ((((fail_if_success (with_reducible show wpAny _ _ (exec (Stmt.For _ _ _ _ _) _) _ _ _)); (fail_if_success (with_reducible show wpAny _ _ (exec (Stmt.While _ _ _ _) _) _ _ _)); (fail_if_success (with_reducible show Exists _)); (fail_if_success (with_reducible show wpAny _ _ (eval (Expr.ListComp _ _ _ _) _) _ _ _)); (fail_if_success (with_reducible show LCg.CompSrc _ _ _ _ _ _ _ _ _ _ _ _ _ _)); (fail_if_success (with_reducible show LCt.CompSrcT _ _ _ _ _ _ _ _ _ _ _ _ _ _ _)); (fail_if_success ((with_reducible refine stopAt ?gdK ?gdH); (case gdK => exact rfl))))); (try (rename News _ _ _ _ => nN; dsimp only at nN)); walk1) | ((((fail_if_success (with_reducible show wpAny _ _ (exec (Stmt.For _ _ _ _ _) _) _ _ _)); (fail_if_success (with_reducible show wpAny _ _ (exec (Stmt.While _ _ _ _) _) _ _ _)); (fail_if_success (with_reducible show Exists _)); (fail_if_success (with_reducible show wpAny _ _ (eval (Expr.ListComp _ _ _ _) _) _ _ _)); (fail_if_success (with_reducible show LCg.CompSrc _ _ _ _ _ _ _ _ _ _ _ _ _ _)); (fail_if_success (with_reducible show LCt.CompSrcT _ _ _ _ _ _ _ _ _ _ _ _ _ _ _)); (fail_if_success ((with_reducible refine stopAt ?gdK ?gdH); (case gdK => exact rfl))))); dsimp only; walk1) | (leave1; walk_say "STEP leave1"; try dsimp only) | fail "no step"))
  · rename News _ _ _ _ => NN
    rename Fr _ _ _ _ => FF
    rename (Txt.startswith _ _ = true) => hsw
    k_here
    have hll : lm.length = mid.length := by rw [← hmid, List.length_map]
    have hlm : (strValues (lm ++ [(pl, tl)])).length < 2 ^ 20 := by simp [strValues]; omega
    k_dflt (refine' del0 (n := 0) (v := .str p0 t0) (vs := strValues (lm ++ [(pl, tl)])) ?k1 ?k2 ?k3 ?k4 ?_; (case k1 => exact FF); (case k2 => exact NN); (case k3 => k_upd); (case k4 => exact hlm); k_whole)
    intro h9 F9 N9
    rw [show strValues (lm ++ [(pl, tl)]) = strValues lm ++ [.str pl tl] by simp [strValues]] at N9
    clear NN FF
    (try dsimp only); (try k_fold)
    (repeat' (first | (k_unfold; (try dsimp only)) | (k_end; wrow_close) | ((((fail_if_success (with_reducible show wpAny _ _ (exec (Stmt.For _ _ _ _ _) _) _ _ _)); (fail_if_success (with_reducible show wpAny _ _ (exec (Stmt.While _ _ _ _) _) _ _ _)); (fail_if_success (with_reducible show Exists _)); (fail_if_success (with_reducible show wpAny _ _ (eval (Expr.ListComp _ _ _ _) _) _ _ _)); (fail_if_success (with_reducible show LCg.CompSrc _ _ _ _ _ _ _ _ _ _ _ _ _ _)); (fail_if_success (with_reducible show LCt.CompSrcT _ _ _ _ _ _ _ _ _ _ _ _ _ _ _)); (fail_if_success ((with_reducible refine stopAt ?gdK ?gdH); (case gdK => exact rfl))))); (try (rename News _ _ _ _ => nN; dsimp only at nN)); walk1) | ((((fail_if_success (with_reducible show wpAny _ _ (exec (Stmt.For _ _ _ _ _) _) _ _ _)); (fail_if_success (with_reducible show wpAny _ _ (exec (Stmt.While _ _ _ _) _) _ _ _)); (fail_if_success (with_reducible show Exists _)); (fail_if_success (with_reducible show wpAny _ _ (eval (Expr.ListComp _ _ _ _) _) _ _ _)); (fail_if_success (with_reducible show LCg.CompSrc _ _ _ _ _ _ _ _ _ _ _ _ _ _)); (fail_if_success (with_reducible show LCt.CompSrcT _ _ _ _ _ _ _ _ _ _ _ _ _ _ _)); (fail_if_success ((with_reducible refine stopAt ?gdK ?gdH); (case gdK => exact rfl))))); dsimp only; walk1) | (leave1; walk_say "STEP leave1"; try dsimp only) | fail "no step"))
    rename News _ _ _ _ => NN
    rename Fr _ _ _ _ => FF
    k_here
    (with_unfolding_all refine' item_last (vi := strValues lm) (v := .str pl tl) ?k1 ?_; (case k1 => exact News.isList NN (by k_mem)); k_whole)
    (repeat' (first | (k_unfold; (try dsimp only)) | (k_end; wrow_close) | ((((fail_if_success (with_reducible show wpAny _ _ (exec (Stmt.For _ _ _ _ _) _) _ _ _)); (fail_if_success (with_reducible show wpAny _ _ (exec (Stmt.While _ _ _ _) _) _ _ _)); (fail_if_success (with_reducible show Exists _)); (fail_if_success (with_reducible show wpAny _ _ (eval (Expr.ListComp _ _ _ _) _) _ _ _)); (fail_if_success (with_reducible show LCg.CompSrc _ _ _ _ _ _ _ _ _ _ _ _ _ _)); (fail_if_success (with_reducible show LCt.CompSrcT _ _ _ _ _ _ _ _ _ _ _ _ _ _ _)); (fail_if_success ((with_reducible refine stopAt ?gdK ?gdH); (case gdK => exact rfl))))); (try (rename News _ _ _ _ => nN; dsimp only at nN)); walk1) | ((((fail_if_success (with_reducible show wpAny _ _ (exec (Stmt.For _ _ _ _ _) _) _ _ _)); (fail_if_success (with_reducible show wpAny _ _ (exec (Stmt.While _ _ _ _) _) _ _ _)); (fail_if_success (with_reducible show Exists _)); (fail_if_success (with_reducible show wpAny _ _ (eval (Expr.ListComp _ _ _ _) _) _ _ _)); (fail_if_success (with_reducible show LCg.CompSrc _ _ _ _ _ _ _ _ _ _ _ _ _ _)); (fail_if_success (with_reducible show LCt.CompSrcT _ _ _ _ _ _ _ _ _ _ _ _ _ _ _)); (fail_if_success ((with_reducible refine stopAt ?gdK ?gdH); (case gdK => exact rfl))))); dsimp only; walk1) | (leave1; walk_say "STEP leave1"; try dsimp only) | fail "no step"))
    rename News _ _ _ _ => NN
    rename Fr _ _ _ _ => FF
    k_here
    have hlm2 : (strValues lm).length < 2 ^ 20 := by simp [strValues]; omega
    k_dflt (refine' delLast (n := 1) (v := .str pl tl) (vs := strValues lm) ?k1 ?k2 ?k3 ?k4 ?_; (case k1 => exact FF); (case k2 => exact NN); (case k3 => k_upd); (case k4 => exact hlm2); k_whole)
    intro h10 F10 N10
    clear NN FF
    (try dsimp only); (try k_fold)
    (repeat' (first | (k_unfold; (try dsimp only)) | (k_end; wrow_close) | ((((fail_if_success (with_reducible show wpAny _ _ (exec (Stmt.For _ _ _ _ _) _) _ _ _)); (fail_if_success (with_reducible show wpAny _ _ (exec (Stmt.While _ _ _ _) _) _ _ _)); (fail_if_success (with_reducible show Exists _)); (fail_if_success (with_reducible show wpAny _ _ (eval (Expr.ListComp _ _ _ _) _) _ _ _)); (fail_if_success (with_reducible show LCg.CompSrc _ _ _ _ _ _ _ _ _ _ _ _ _ _)); (fail_if_success (with_reducible show LCt.CompSrcT _ _ _ _ _ _ _ _ _ _ _ _ _ _ _)); (fail_if_success ((with_reducible refine stopAt ?gdK ?gdH); (case gdK => exact rfl))))); (try (rename News _ _ _ _ => nN; dsimp only at nN)); walk1) | ((((fail_if_success (with_reducible show wpAny _ _ (exec (Stmt.For _ _ _ _ _) _) _ _ _)); (fail_if_success (with_reducible show wpAny _ _ (exec (Stmt.While _ _ _ _) _) _ _ _)); (fail_if_success (with_reducible show Exists _)); (fail_if_success (with_reducible show wpAny _ _ (eval (Expr.ListComp _ _ _ _) _) _ _ _)); (fail_if_success (with_reducible show LCg.CompSrc _ _ _ _ _ _ _ _ _ _ _ _ _ _)); (fail_if_success (with_reducible show LCt.CompSrcT _ _ _ _ _ _ _ _ _ _ _ _ _ _ _)); (fail_if_success ((with_reducible refine stopAt ?gdK ?gdH); (case gdK => exact rfl))))); dsimp only; walk1) | (leave1; walk_say "STEP leave1"; try dsimp only) | fail "no step"))
    rename_i FF NN
    refine for_invO (EmI y pl p0 ty mid lm s g' L' WS) (fun Iv hIv => ?_) (fun Iv hIv => ?_)
    · (repeat' (first | (k_unfold; (try dsimp only)) | (k_end; wrow_close) | ((((fail_if_success (with_reducible show wpAny _ _ (exec (Stmt.For _ _ _ _ _) _) _ _ _)); (fail_if_success (with_reducible show wpAny _ _ (exec (Stmt.While _ _ _ _) _) _ _ _)); (fail_if_success (with_reducible show Exists _)); (fail_if_success (with_reducible show wpAny _ _ (eval (Expr.ListComp _ _ _ _) _) _ _ _)); (fail_if_success (with_reducible show LCg.CompSrc _ _ _ _ _ _ _ _ _ _ _ _ _ _)); (fail_if_success (with_reducible show LCt.CompSrcT _ _ _ _ _ _ _ _ _ _ _ _ _ _ _)); (fail_if_success ((with_reducible refine stopAt ?gdK ?gdH); (case gdK => exact rfl))))); (try (rename News _ _ _ _ => nN; dsimp only at nN)); walk1) | ((((fail_if_success (with_reducible show wpAny _ _ (exec (Stmt.For _ _ _ _ _) _) _ _ _)); (fail_if_success (with_reducible show wpAny _ _ (exec (Stmt.While _ _ _ _) _) _ _ _)); (fail_if_success (with_reducible show Exists _)); (fail_if_success (with_reducible show wpAny _ _ (eval (Expr.ListComp _ _ _ _) _) _ _ _)); (fail_if_success (with_reducible show LCg.CompSrc _ _ _ _ _ _ _ _ _ _ _ _ _ _)); (fail_if_success (with_reducible show LCt.CompSrcT _ _ _ _ _ _ _ _ _ _ _ _ _ _ _)); (fail_if_success ((with_reducible refine stopAt ?gdK ?gdH); (case gdK => exact rfl))))); dsimp only; walk1) | (leave1; walk_say "STEP leave1"; try dsimp only) | fail "no step"))
      rename_i IT1 h9 FE NE lt9
      refine kOut0 hIv ?_
      exact ⟨IT1, lm.length, rfl, _, _, _, 0, _, _, _, rfl, ⟨_, FE, rfl⟩, newsSub NE (by (first | exact subI | (((try dsimp only [lexM, lexO, rdM, rdP, lexD, strD, List.cons_append, List.nil_append])); first | walk_at "ALLIN" | walk_at "SUBALL"))), LiO.start _, AL.cons (by walk_at "LT") AL.nil, rfl, Nat.zero_le _, rfl⟩
    · clear NN FF
      rintro J' k s1 ⟨o, h1, tk1, i, st, ts, te, rfl, F1, N1, hlo, o1, rfl, hi1, hem⟩
      refine F1.use fun m1 F2 => ?_
      clear F1
      refine list_next rfl F2 N1 hlo ?_ (.head _) (fun v hv o2 h3 hlo2 F3 N3 => ?_) (fun hn h3 F3 N3 => ?_)
      · walk_at "OFF"
      · obtain ⟨hil, rfl⟩ := strGet hv
        have hwl : (lm[i]).1.length ≤ x.length := hmdl _ (hmid ▸ List.mem_map_of_mem (List.getElem_mem hil))
        have hmi := midDrop hmid hil
        rw [hmi] at hem
        generalize (lm[i]).1 = wi at *
        clear F2 N1
        simp only [emLoop] at hem
        (repeat' (first | (k_unfold; (try dsimp only)) | (k_end; wrow_close) | ((((fail_if_success (with_reducible show wpAny _ _ (exec (Stmt.For _ _ _ _ _) _) _ _ _)); (fail_if_success (with_reducible show wpAny _ _ (exec (Stmt.While _ _ _ _) _) _ _ _)); (fail_if_success (with_reducible show Exists _)); (fail_if_success (with_reducible show wpAny _ _ (eval (Expr.ListComp _ _ _ _) _) _ _ _)); (fail_if_success (with_reducible show LCg.CompSrc _ _ _ _ _ _ _ _ _ _ _ _ _ _)); (fail_if_success (with_reducible show LCt.CompSrcT _ _ _ _ _ _ _ _ _ _ _ _ _ _ _)); (fail_if_success ((with_reducible refine stopAt ?gdK ?gdH); (case gdK => exact rfl))))); (try (rename News _ _ _ _ => nN; dsimp only at nN)); walk1) | ((((fail_if_success (with_reducible show wpAny _ _ (exec (Stmt.For _ _ _ _ _) _) _ _ _)); (fail_if_success (with_reducible show wpAny _ _ (exec (Stmt.While _ _ _ _) _) _ _ _)); (fail_if_success (with_reducible show Exists _)); (fail_if_success (with_reducible show wpAny _ _ (eval (Expr.ListComp _ _ _ _) _) _ _ _)); (fail_if_success (with_reducible show LCg.CompSrc _ _ _ _ _ _ _ _ _ _ _ _ _ _)); (fail_if_success (with_reducible show LCt.CompSrcT _ _ _ _ _ _ _ _ _ _ _ _ _ _ _)); (fail_if_success ((with_reducible refine stopAt ?gdK ?gdH); (case gdK => exact rfl))))); dsimp only; walk1) | (leave1; walk_say "STEP leave1"; try dsimp only) | fail "no step"))
        ((k_here; (with_reducible show wpAny _ _ (call (Value.builtin "str.find") [Value.str _ _, Value.str _ _, Value.int _ _, Value.int _ _]) _ _ _); k_dflt (refine' callFind3 ?_; k_whole)))
        (repeat' (first | (k_unfold; (try dsimp only)) | (k_end; wrow_close) | ((((fail_if_success (with_reducible show wpAny _ _ (exec (Stmt.For _ _ _ _ _) _) _ _ _)); (fail_if_success (with_reducible show wpAny _ _ (exec (Stmt.While _ _ _ _) _) _ _ _)); (fail_if_success (with_reducible show Exists _)); (fail_if_success (with_reducible show wpAny _ _ (eval (Expr.ListComp _ _ _ _) _) _ _ _)); (fail_if_success (with_reducible show LCg.CompSrc _ _ _ _ _ _ _ _ _ _ _ _ _ _)); (fail_if_success (with_reducible show LCt.CompSrcT _ _ _ _ _ _ _ _ _ _ _ _ _ _ _)); (fail_if_success ((with_reducible refine stopAt ?gdK ?gdH); (case gdK => exact rfl))))); (try (rename News _ _ _ _ => nN; dsimp only at nN)); walk1) | ((((fail_if_success (with_reducible show wpAny _ _ (exec (Stmt.For _ _ _ _ _) _) _ _ _)); (fail_if_success (with_reducible show wpAny _ _ (exec (Stmt.While _ _ _ _) _) _ _ _)); (fail_if_success (with_reducible show Exists _)); (fail_if_success (with_reducible show wpAny _ _ (eval (Expr.ListComp _ _ _ _) _) _ _ _)); (fail_if_success (with_reducible show LCg.CompSrc _ _ _ _ _ _ _ _ _ _ _ _ _ _)); (fail_if_success (with_reducible show LCt.CompSrcT _ _ _ _ _ _ _ _ _ _ _ _ _ _ _)); (fail_if_success ((with_reducible refine stopAt ?gdK ?gdH); (case gdK => exact rfl))))); dsimp only; walk1) | (leave1; walk_say "STEP leave1"; try dsimp only) | fail "no step"))
        · rename (find3 _ _ _ _ < 0) => hlt
          rename News h₀ _ _ _ => NE
          rw [if_pos hlt] at hem
          exact hret _ _ _ _ ⟨by rw [hsw, ← hem]; rfl, rfl⟩ (by assumption) (newsSub NE (by (first | exact subI | (((try dsimp only [lexM, lexO, rdM, rdP, lexD, strD, List.cons_append, List.nil_append])); first | walk_at "ALLIN" | walk_at "SUBALL")))) (Keep.fr Kg (by assumption)) (Fresh.same rfl)
        · rename (¬ (find3 _ _ _ _ < 0)) => hlt
          rename News _ _ _ _ => NE
          rename Fr _ _ _ _ => FE
          rw [if_neg hlt] at hem
          refine kOut hIv ?_
          exact ⟨lm.length - (i + 1), nsubS hil, o2, _, _, i + 1, _, _, _, rfl, ⟨_, FE, rfl⟩, newsSub NE (by (first | exact subI | (((try dsimp only [lexM, lexO, rdM, rdP, lexD, strD, List.cons_append, List.nil_append])); first | walk_at "ALLIN" | walk_at "SUBALL"))), hlo2, o1, rfl, hil, hem⟩
      · have hie := strEnd hn hi1
        rw [hie, ← hmid, show List.drop lm.length (lm.map (·.1)) = [] by simp, emLoop, hmid] at hem
        clear F2 N1
        (repeat' (first | (k_unfold; (try dsimp only)) | (k_end; wrow_close) | ((((fail_if_success (with_reducible show wpAny _ _ (exec (Stmt.For _ _ _ _ _) _) _ _ _)); (fail_if_success (with_reducible show wpAny _ _ (exec (Stmt.While _ _ _ _) _) _ _ _)); (fail_if_success (with_reducible show Exists _)); (fail_if_success (with_reducible show wpAny _ _ (eval (Expr.ListComp _ _ _ _) _) _ _ _)); (fail_if_success (with_reducible show LCg.CompSrc _ _ _ _ _ _ _ _ _ _ _ _ _ _)); (fail_if_success (with_reducible show LCt.CompSrcT _ _ _ _ _ _ _ _ _ _ _ _ _ _ _)); (fail_if_success ((with_reducible refine stopAt ?gdK ?gdH); (case gdK => exact rfl))))); (try (rename News _ _ _ _ => nN; dsimp only at nN)); walk1) | ((((fail_if_success (with_reducible show wpAny _ _ (exec (Stmt.For _ _ _ _ _) _) _ _ _)); (fail_if_success (with_reducible show wpAny _ _ (exec (Stmt.While _ _ _ _) _) _ _ _)); (fail_if_success (with_reducible show Exists _)); (fail_if_success (with_reducible show wpAny _ _ (eval (Expr.ListComp _ _ _ _) _) _ _ _)); (fail_if_success (with_reducible show LCg.CompSrc _ _ _ _ _ _ _ _ _ _ _ _ _ _)); (fail_if_success (with_reducible show LCt.CompSrcT _ _ _ _ _ _ _ _ _ _ _ _ _ _ _)); (fail_if_success ((with_reducible refine stopAt ?gdK ?gdH); (case gdK => exact rfl))))); dsimp only; walk1) | (leave1; walk_say "STEP leave1"; try dsimp only) | fail "no step"))
        rename News h₀ _ _ _ => NE
        exact hret _ _ _ _ ⟨by rw [hsw, ← hem]; rfl, rfl⟩ (by assumption) (newsSub NE (by (first | exact subI | (((try dsimp only [lexM, lexO, rdM, rdP, lexD, strD, List.cons_append, List.nil_append])); first | walk_at "ALLIN" | walk_at "SUBALL")))) (Keep.fr Kg (by assumption)) (Fresh.same rfl)
  · rename (Txt.startswith _ _ = false) => hsw
    rename News h₀ _ _ _ => NE
    exact hret _ _ _ _ ⟨by rw [hsw]; rfl, rfl⟩ (by assumption) (newsSub NE (by (first | exact subI | (((try dsimp only [lexM, lexO, rdM, rdP, lexD, strD, List.cons_append, List.nil_append])); first | walk_at "ALLIN" | walk_at "SUBALL")))) (Keep.fr Kg (by assumption)) (Fresh.same rfl)
end Mine

-- part Cmp
section
open PySem.Calls
namespace Mine
section
variable {prog : Program} {w : World} {A : Around} {E : Value → Shared → Prop} {s : Shared} {h₀ : Heap} {L : Addr} {m : Str → Option Value} {env : Env}
/-- the end of one turn of a list comprehension whose blocks leave the ledger as it was -/
inductive TurnEnd (h₀ : Heap) (L : Addr) (m : Str → Option Value) (s : Shared) (led : List (Addr × Obj)) (G : Value → Prop) (y : Value) (s₂ : Shared) : Prop
  | mk (h' : Heap) (tk' : Nat) (e : s₂ = { s with heap := h', toks := tk' }) (F : Fr h₀ L h' m) (N : News h₀ L h' led) (g : G y)
theorem comp_rest {elt : Expr} {x : Str} {scope : Scope} {cl : List (Str × Addr)} {S : List (Addr × Obj) → Prop} {P : Nat → Value → Prop} {Fin : List Value → List (Addr × Obj) → Prop} {n : Nat} {news : List (Addr × Obj)} (hS : S news) (G : Nat → List Value → Prop) (h0 : G 0 [])
    (step : ∀ i ys v I oI C oC D m₂ h tk (E' : Value → Shared → Prop), i < n → G i ys → P i v → LCg.NsObj oC m₂ → m₂ x = some v → Fr h₀ L h m → News h₀ L h ((I, oI) :: (C, oC) :: (D, LCg.lst ys) :: news) → LCg.Off3 I C D news →
      wpAny (model prog w) A (eval elt (compEnvC scope cl C env)) (TurnEnd h₀ L m s ((I, oI) :: (C, oC) :: (D, LCg.lst ys) :: news) (fun y => G (i + 1) (ys ++ [y]))) E' { s with heap := h, toks := tk })
    (fin : ∀ ys, G n ys → Fin ys news) : LCg.CompRest prog w A h₀ L m env elt x scope cl s S P Fin n 0 [] news := by
  have key : ∀ k i ys, i + k = n → G i ys → LCg.CompRest prog w A h₀ L m env elt x scope cl s S P Fin k i ys news := by
    intro k
    induction k with
    | zero =>
      intro i ys hi hg
      obtain rfl : i = n := by omega
      exact LCg.CompRest.zero (fin ys hg)
    | succ k ih =>
      intro i ys hi hg
      refine LCg.CompRest.succ fun v I oI C oC D m₂ h tk E' hv hC hx F N off ne => ?_
      refine wpAny_mono (step i ys v I oI C oC D m₂ h tk E' (by omega) hg hv hC hx F N off) (fun y s₂ hs => ?_) fun _ _ e => e
      obtain ⟨h', tk', rfl, F', N', hg'⟩ := hs
      exact LCg.CompEnd.intro (s₁ := { s with heap := h, toks := tk }) F' N' news (fun p hp => hp) off hS (ih (i + 1) (ys ++ [y]) (by omega) hg')
  exact key n 0 [] (by omega) h0
end
theorem intsGet {vs : List Value} {ns : List Int} (h : IntsAre vs ns) : ∀ (i : Nat) (v : Value), vs[i]? = some v → ∃ z t, v = .int z t ∧ ns[i]? = some z := by
  induction h with
  | nil => intro i v hv; simp at hv
  | cons n t h ih =>
    intro i v hv
    cases i with
    | zero => simp at hv; exact ⟨n, t, hv.symm, rfl⟩
    | succ i => exact ih i v (by simpa using hv)
theorem strSnoc (l : List (Str × Tok)) (x : Str) (t : Tok) : strValues l ++ [Value.str x t] = strValues (l ++ [(x, t)]) := by simp [strValues]
theorem joinS {prog : Program} {w : World} {A : Around} {E : Value → Shared → Prop} {s : Shared} {h₀ : Heap} {L : Addr} {news : List (Addr × Obj)} {x : Str} {t : Tok} {D : Addr} {ys : List Value} {l : List (Str × Tok)} {texts : List Str} {Q : Value → Shared → Prop}
    (N : News h₀ L s.heap news) (hm : (D, LCg.lst ys) ∈ news) (hy : ys = strValues l) (ht : l.map (·.1) = texts) (hb : ∀ y ∈ texts, y.length ≤ 1000) (hl : texts.length ≤ 100) (hx : x.length ≤ 10)
    (h : ∀ t' k, (Txt.join x texts).length ≤ 200000 → Q (.str (Txt.join x texts) t') { s with toks := k }) : wpAny (model prog w) A (call (.builtin "str.join") [.str x t, .ref D]) Q E s := by
  subst hy
  have h1 := StrLaws.sumLen_le texts hb
  have h2 := StrLaws.join_length_le x texts
  have h3 : texts.length * x.length ≤ 100 * 10 := Nat.mul_le_mul hl hx
  have hok : JoinOk x texts = true := by
    unfold JoinOk
    rw [StrLaws.joinTotal, Bool.not_eq_true']
    unfold Builtin.Str.tooLong
    rw [sizeLine_eq]
    exact decide_eq_false (by omega)
  refine SC.join ⟨_, (N _ hm).1, rfl, _, rfl⟩ ht hok fun t' k => h t' k ?_
  show (Builtin.Str.glued x texts).length ≤ _
  rw [StrLaws.glued_eq_join]
  omega
end Mine
end

-- part Plain
namespace Mine
/-- how many of the list lie on x or on one of the j places before it, around the ring -/
def cnt (Z x j : Int) (l : List Int) : Nat := l.countP fun z => decide ((x - z) % Z ≤ j)
def phi (Z x z : Int) : Int := (z - x - 1) % Z
def resid (Z : Int) (qs : List Nat) : List Int := qs.map fun (q : Nat) => (q : Int) % Z
def phiSum (Z x : Int) (l : List Int) : Int := (l.map (phi Z x)).sum
theorem cnt_nil {Z x j : Int} : cnt Z x j [] = 0 := rfl
theorem cnt_cons {Z x j z : Int} {l : List Int} : cnt Z x j (z :: l) = (if (x - z) % Z ≤ j then 1 else 0) + cnt Z x j l := by
  simp [cnt, List.countP_cons]; omega
theorem cnt_app {Z x j : Int} {l r : List Int} : cnt Z x j (l ++ r) = cnt Z x j l + cnt Z x j r := by simp [cnt, List.countP_append]
theorem phiSum_cons {Z x z : Int} {l : List Int} : phiSum Z x (z :: l) = phi Z x z + phiSum Z x l := by simp [phiSum]
theorem phiSum_app {Z x : Int} {l r : List Int} : phiSum Z x (l ++ r) = phiSum Z x l + phiSum Z x r := by simp [phiSum]
theorem phiSum_nil {Z x : Int} : phiSum Z x [] = 0 := rfl
theorem modsub {Z x z : Int} (hx : 0 ≤ x ∧ x < Z) (hz : 0 ≤ z ∧ z < Z) : (x - z) % Z = if z ≤ x then x - z else x - z + Z := by
  split
  · exact Int.emod_eq_of_lt (by omega) (by omega)
  · have e : (x - z) % Z = (x - z + Z) % Z := by simp
    rw [e]
    exact Int.emod_eq_of_lt (by omega) (by omega)
theorem ms_le {Z x z : Int} (hx : 0 ≤ x ∧ x < Z) (hz : 0 ≤ z ∧ z < Z) (h : z ≤ x) : (x - z) % Z = x - z := by rw [modsub hx hz, if_pos h]
theorem ms_gt {Z x z : Int} (hx : 0 ≤ x ∧ x < Z) (hz : 0 ≤ z ∧ z < Z) (h : x < z) : (x - z) % Z = x - z + Z := by rw [modsub hx hz, if_neg (by omega)]
theorem phi_eq {Z x z : Int} (hx : 0 ≤ x ∧ x < Z) (hz : 0 ≤ z ∧ z < Z) : phi Z x z = if x < z then z - x - 1 else z - x - 1 + Z := by
  unfold phi
  split
  · exact Int.emod_eq_of_lt (by omega) (by omega)
  · have e : (z - x - 1) % Z = (z - x - 1 + Z) % Z := by simp
    rw [e]
    exact Int.emod_eq_of_lt (by omega) (by omega)

structure JJ (Z : Int) (W : List Int) (qs : List Nat) (f : List Int) (far : Int) : Prop where
  q9 : ∀ q ∈ qs, q < 900
  len : qs.length + 1 = f.length
  fl : (f.length : Int) ≤ Z
  srt : f.Pairwise (· < ·)
  rng : ∀ x ∈ f, 0 ≤ x ∧ x < Z
  far0 : 0 ≤ far
  far1 : far + 7 * (muQ qs : Int) ≤ 200
  c : ∀ x ∈ f, ∀ j : Int, 0 ≤ j → j < Z → cnt Z x j W + cnt Z x j f ≤ j.toNat + 1 + cnt Z x j (resid Z qs)
  p : ∀ x ∈ f, far + phiSum Z x f - phiSum Z x (resid Z qs) = phiSum Z x (rangeKs 0 (Z - 0).toNat) - phiSum Z x W

theorem iteLe {P Q : Prop} [Decidable P] [Decidable Q] (h : P → Q) : (if P then 1 else 0 : Nat) ≤ if Q then 1 else 0 := by
  by_cases hp : P
  · rw [if_pos hp, if_pos (h hp)]; exact Nat.le_refl _
  · rw [if_neg hp]; exact Nat.zero_le _
theorem arith1 {a c u v R : Nat} (h : a ≤ c + (u + R)) (k : u ≤ v) : a ≤ c + (R + (v + 0)) := by omega
theorem arith2 {a p r c u v R : Nat} (h : a + (p + (v + r)) ≤ c + (u + R)) (k : u ≤ v) : a + (p + r) ≤ c + R := by omega
theorem arith3 {x r Z j : Int} (hr : r < Z) (h : x - r + Z ≤ j) : x - 0 ≤ j := by omega
theorem arith4 {far Z r x F R K : Int} (h : far + F - (r - x - 1 + R) = K) : far + Z - r + F - (R + (0 - x - 1 + Z + 0)) = K := by omega
theorem arith5 {far v r x P S R K : Int} (h : far + (P + (v - x - 1 + S)) - (r - x - 1 + R) = K) : far + v - r + (P + S) - R = K := by omega
theorem arith6 {far v r x Z P S R K : Int} (h : far + (P + (v - x - 1 + Z + S)) - (r - x - 1 + Z + R) = K) : far + v - r + (P + S) - R = K := by omega
theorem arith7 {a b : Int} (h : a ≤ b) (x c j : Int) (k : x - a + c ≤ j) : x - b + c ≤ j := by omega
theorem arith8 {a b : Int} (h : a ≤ b) (x j : Int) (k : x - a ≤ j) : x - b ≤ j := by omega
theorem jj_far {Z r far : Int} {m q : Nat} (h : far + 7 * ((2 + m : Nat) : Int) ≤ 200) (hZ : Z ≤ 7) (hr : 0 ≤ r) : far + Z - r + 7 * ((m + 1 : Nat) : Int) ≤ 200 := by omega
theorem jj_far2 {Z r v far : Int} {m m' : Nat} (h : far + 7 * (m : Int) ≤ 200) (hZ : Z ≤ 7) (hr : 0 ≤ r) (hv : v < Z) (hm : m' + 1 ≤ m) : far + v - r + 7 * (m' : Int) ≤ 200 := by omega
theorem jj_len {Z far : Int} {n m k : Nat} (h1 : k = n + 2) (h2 : (k : Int) ≤ Z) (hZ : 4 ≤ Z ∧ Z ≤ 7) (h3 : far + 7 * (m : Int) ≤ 200) : n < 800 ∧ 0 < k ∧ k < 900 ∧ far < 100000 := by omega
theorem jj_far0 {Z r far : Int} (h : 0 ≤ far) (hr : r < Z) : 0 ≤ far + Z - r := by omega
theorem jj_far1 {v r far : Int} (h : 0 ≤ far) (hr : r ≤ v) : 0 ≤ far + v - r := by omega
theorem jj_ln {a b c : Nat} {Z : Int} (h1 : a + 1 = b) (h2 : b = c + 2) (h3 : (b : Int) ≤ Z) : c + 1 = a ∧ (a : Int) ≤ Z := by omega
theorem jj_cut {p r : List Int} {v : Int} : (p ++ r).length + 1 = (p ++ v :: r).length := by simp; omega
theorem JJ.step {Z : Int} {W : List Int} (hZ : 4 ≤ Z ∧ Z ≤ 7) : ∀ q qs f far, JJ Z W (q :: qs) f far → q < 900 ∧ qs.length < 800 ∧ f.Pairwise (· ≤ ·) ∧ 0 < f.length ∧ f.length < 900 ∧ 0 ≤ far ∧ far < 100000 ∧ ∀ k, LeftOf f ((q : Int) % Z) k → (k = f.length → q ≠ 0 ∧ JJ Z W (qs ++ [0]) f (far + Z - (q : Int) % Z)) ∧ ∀ p v r, f = p ++ v :: r → p.length = k → JJ Z W qs (p ++ r) (far + v - (q : Int) % Z) := by
  intro q qs f far h
  obtain ⟨q9, len, fl, srt, rng, far0, far1, hc, hp⟩ := h
  have hlen : f.length = qs.length + 2 := len.symm
  have hmu1 : muQ qs + 1 ≤ muQ (q :: qs) := muQ_dn
  have hZ0 : 0 < Z := Int.lt_of_lt_of_le (by decide) hZ.1
  have hr0 : 0 ≤ (q : Int) % Z := Int.emod_nonneg _ (Int.ne_of_gt hZ0)
  have hr1 : (q : Int) % Z < Z := Int.emod_lt_of_pos _ hZ0
  obtain ⟨b1, b2, b3, b4⟩ := jj_len hlen fl hZ far1
  have hz0 : ((0 : Nat) : Int) % Z = 0 := Int.zero_emod _
  refine ⟨q9 q (.head _), b1, srt.imp Int.le_of_lt, b2, b3, far0, b4, ?_⟩
  intro k ⟨k1, k2, k3⟩
  constructor
  · intro hk
    have hall : ∀ x ∈ f, x < (q : Int) % Z := by
      intro x hx
      obtain ⟨i, hi, rfl⟩ := List.mem_iff_getElem.mp hx
      exact k2 i hi (hk ▸ hi)
    have hq0 : q ≠ 0 := by
      rintro rfl
      have h1 := hall f[0] (List.getElem_mem b2)
      have h2 := (rng f[0] (List.getElem_mem b2)).1
      rw [hz0] at h1
      exact Int.lt_irrefl _ (Int.lt_of_lt_of_le h1 h2)
    refine ⟨hq0, ?_, ?_, fl, srt, rng, jj_far0 far0 hr1, ?_, ?_, ?_⟩
    · intro q' hq'
      rcases List.mem_append.mp hq' with h | h
      · exact q9 _ (.tail _ h)
      · rw [List.mem_singleton.mp h]; decide
    · rw [List.length_append, hlen]; rfl
    · rw [muQ_snoc]
      have : muQ (q :: qs) = 2 + muQ qs := by simp only [muQ]; rw [if_neg hq0]
      rw [this] at far1
      exact jj_far (q := q) far1 hZ.2 hr0
    · intro x hx j j0 j1
      have h1 := hc x hx j j0 j1
      have hxr := hall x hx
      have hx0 := rng x hx
      simp only [resid, List.map_append, List.map_cons, List.map_nil, cnt_app, cnt_cons, cnt_nil] at h1 ⊢
      refine arith1 h1 (iteLe fun hh => ?_)
      rw [ms_gt hx0 ⟨hr0, hr1⟩ hxr] at hh
      rw [hz0, ms_le hx0 ⟨Int.le_refl _, hZ0⟩ hx0.1]
      exact arith3 hr1 hh
    · intro x hx
      have h1 := hp x hx
      have hxr := hall x hx
      have hx0 := rng x hx
      simp only [resid, List.map_append, List.map_cons, List.map_nil, phiSum_app, phiSum_cons, phiSum_nil] at h1 ⊢
      rw [phi_eq hx0 ⟨hr0, hr1⟩, if_pos hxr] at h1
      rw [hz0, phi_eq hx0 ⟨Int.le_refl _, hZ0⟩, if_neg (Int.not_lt.mpr hx0.1)]
      exact arith4 h1
  · rintro p v r rfl hk
    have hv : (q : Int) % Z ≤ v := by
      have := k3 k (by rw [← hk, List.length_append]; exact Nat.lt_add_of_pos_right (Nat.succ_pos _)) (Nat.le_refl _)
      rw [List.getElem_append_right (Nat.le_of_eq hk)] at this
      simpa [hk] using this
    have hpl : ∀ x ∈ p, x < (q : Int) % Z := by
      intro x hx
      obtain ⟨i, hi, rfl⟩ := List.mem_iff_getElem.mp hx
      have := k2 i (Nat.lt_of_lt_of_le hi (by rw [List.length_append]; exact Nat.le_add_right _ _)) (hk ▸ hi)
      rwa [List.getElem_append_left hi] at this
    obtain ⟨s1, s2, s3⟩ := List.pairwise_append.mp srt
    obtain ⟨s4, s5⟩ := List.pairwise_cons.mp s2
    have hvr := rng v (List.mem_append_right _ (.head _))
    have hmem : ∀ x, x ∈ p ++ r → x ∈ p ++ v :: r ∧ (0 ≤ x ∧ x < Z) ∧ (x < (q : Int) % Z ∨ v < x) := by
      intro x hx
      have hx' : x ∈ p ++ v :: r := by
        rcases List.mem_append.mp hx with h | h
        · exact List.mem_append.mpr (.inl h)
        · exact List.mem_append.mpr (.inr (.tail _ h))
      refine ⟨hx', rng x hx', ?_⟩
      rcases List.mem_append.mp hx with h | h
      · exact .inl (hpl x h)
      · exact .inr (s4 x h)
    have hln := jj_ln (jj_cut (p := p) (r := r) (v := v)) hlen fl
    refine ⟨fun q' h => q9 q' (.tail _ h), hln.1, hln.2, ?_, fun x hx => (hmem x hx).2.1, jj_far1 far0 hv, jj_far2 far1 hZ.2 hr0 hvr.2 hmu1, ?_, ?_⟩
    · exact List.pairwise_append.mpr ⟨s1, s5, fun a ha b hb => s3 a ha b (.tail _ hb)⟩
    · intro x hx j j0 j1
      obtain ⟨hx', hx0, hor⟩ := hmem x hx
      have h1 := hc x hx' j j0 j1
      simp only [resid, List.map_cons, cnt_app, cnt_cons] at h1 ⊢
      refine arith2 h1 (iteLe fun hh => ?_)
      rcases hor with g | g
      · rw [ms_gt hx0 ⟨hr0, hr1⟩ g] at hh
        rw [ms_gt hx0 hvr (Int.lt_of_lt_of_le g hv)]
        exact arith7 hv _ _ _ hh
      · rw [ms_le hx0 ⟨hr0, hr1⟩ (Int.le_trans hv (Int.le_of_lt g))] at hh
        rw [ms_le hx0 hvr (Int.le_of_lt g)]
        exact arith8 hv _ _ hh
    · intro x hx
      obtain ⟨hx', hx0, hor⟩ := hmem x hx
      have h1 := hp x hx'
      simp only [resid, List.map_cons, phiSum_app, phiSum_cons] at h1 ⊢
      rw [phi_eq hx0 ⟨hr0, hr1⟩, phi_eq hx0 hvr] at h1
      rcases hor with g | g
      · rw [if_pos (Int.lt_of_lt_of_le g hv), if_pos g] at h1; exact arith5 h1
      · rw [if_neg (Int.not_lt.mpr (Int.le_of_lt g)), if_neg (Int.not_lt.mpr (Int.le_trans hv (Int.le_of_lt g)))] at h1; exact arith6 h1

theorem range_cnt : ∀ Z ∈ [4, 5, 6, 7], ∀ x ∈ rangeKs 0 Z, ∀ j ∈ rangeKs 0 Z, cnt (Z : Nat) x j (rangeKs 0 Z) ≤ j.toNat + 1 := by decide +kernel
theorem range_phi : ∀ Z ∈ [4, 5, 6, 7], ∀ x ∈ rangeKs 0 Z, 2 * phiSum (Z : Nat) x (rangeKs 0 Z) = (Z : Int) * ((Z : Int) - 1) := by decide +kernel
theorem in_range {Z x : Int} (h : 0 ≤ x ∧ x < Z) : x ∈ rangeKs 0 Z.toNat := List.mem_map.mpr ⟨x.toNat, List.mem_range.mpr (by omega), by omega⟩
theorem z_mem {Z : Int} (hZ : 4 ≤ Z ∧ Z ≤ 7) : Z.toNat ∈ [4, 5, 6, 7] := by
  have : Z = 4 ∨ Z = 5 ∨ Z = 6 ∨ Z = 7 := by omega
  rcases this with rfl | rfl | rfl | rfl <;> decide

theorem muQ_le (qs : List Nat) : muQ qs ≤ 2 * qs.length := by
  induction qs with
  | nil => simp [muQ]
  | cons q qs ih => simp only [muQ, List.length_cons]; split <;> omega
theorem range_srt (n : Nat) : (rangeKs 0 n).Pairwise (· < ·) := by
  unfold rangeKs
  rw [List.pairwise_map]
  exact List.pairwise_lt_range.imp fun h => by omega
theorem JJ.start {Z : Int} (hZ : 4 ≤ Z ∧ Z ≤ 7) (qs : List Nat) (hl : (qs.length : Int) + 1 = Z) (hq : ∀ q ∈ qs, q < 900) : JJ Z (resid Z qs) qs (rangeKs 0 (Z - 0).toNat) 0 := by
  have hm := muQ_le qs
  have e : (((Z - 0).toNat : Nat) : Int) = Z := by omega
  have hz := z_mem hZ
  have e2 : ((Z.toNat : Nat) : Int) = Z := by omega
  refine ⟨hq, by rw [rangeKs_length]; omega, by rw [rangeKs_length]; omega, range_srt _, fun x hx => ?_, Int.le_refl _, by omega, ?_, ?_⟩
  · have := mem_rangeKs hx; omega
  · intro x hx j j0 j1
    have := range_cnt Z.toNat hz x (by simpa using hx) j (in_range ⟨j0, j1⟩)
    rw [e2] at this
    rw [show Z - 0 = Z by omega]
    omega
  · intro x hx
    omega
theorem JJ.done {Z : Int} {W : List Int} (hZ : 4 ≤ Z ∧ Z ≤ 7) {f : List Int} {far : Int} (h : JJ Z W [] f far) :
    ∃ p, f = [p] ∧ 0 ≤ p ∧ p < Z ∧ (∀ j : Int, 0 ≤ j → j < Z → cnt Z p j W ≤ j.toNat) ∧ 2 * (far + phiSum Z p W) = (Z - 1) * (Z - 2) ∧ 0 ≤ far ∧ far ≤ 200 := by
  obtain ⟨q9, len, fl, srt, rng, far0, far1, hc, hp⟩ := h
  obtain ⟨p, rfl⟩ : ∃ p, f = [p] := by
    match f, len with
    | [p], _ => exact ⟨p, rfl⟩
  obtain ⟨p0, p1⟩ := rng p (.head _)
  refine ⟨p, rfl, p0, p1, ?_, ?_, far0, by simp [muQ] at far1; omega⟩
  · intro j j0 j1
    have h1 := hc p (.head _) j j0 j1
    simp only [resid, List.map_nil, cnt_nil, cnt_cons] at h1
    rw [if_pos (by simp; exact j0)] at h1
    omega
  · have h1 := hp p (.head _)
    simp only [resid, List.map_nil, phiSum_nil, phiSum_cons] at h1
    rw [phi_eq ⟨p0, p1⟩ ⟨p0, p1⟩, if_neg (by omega)] at h1
    have h2 := range_phi Z.toNat (z_mem hZ) p (in_range ⟨p0, p1⟩)
    rw [show ((Z.toNat : Nat) : Int) = Z by omega] at h2
    rw [show Z - 0 = Z by omega] at h1
    have e1 : Z * (Z - 1) = Z * Z - Z := by rw [Int.mul_sub]; omega
    have e2 : (Z - 1) * (Z - 2) = Z * Z - 3 * Z + 2 := by rw [Int.sub_mul, Int.mul_sub]; omega
    omega

theorem len_two {A B : Int → Bool} : ∀ (W : List Int), (∀ z ∈ W, A z = true ∨ B z = true) → W.length ≤ W.countP A + W.countP B
  | [], _ => by simp
  | z :: W, h => by
    have ih := len_two W fun y hy => h y (.tail _ hy)
    have hz := h z (.head _)
    simp only [List.length_cons, List.countP_cons]
    rcases hz with e | e <;> rw [e] <;> simp <;> omega
theorem left_lt {Z p q : Int} {W : List Int} (hW : ∀ z ∈ W, 0 ≤ z ∧ z < Z) (hl : (W.length : Int) + 1 = Z) (hp : 0 ≤ p) (hq : q < Z) (h : p < q)
    (cp : ∀ j : Int, 0 ≤ j → j < Z → cnt Z p j W ≤ j.toNat) (cq : ∀ j : Int, 0 ≤ j → j < Z → cnt Z q j W ≤ j.toNat) : False := by
  have d : 0 ≤ p - q + Z - 1 ∧ p - q + Z - 1 < Z ∧ 0 ≤ q - p - 1 ∧ q - p - 1 < Z ∧ (p - q + Z - 1).toNat + (q - p - 1).toNat + 2 = Z := by omega
  have a := cp _ d.1 d.2.1
  have b := cq _ d.2.2.1 d.2.2.2.1
  have c := len_two (A := fun z => decide ((p - z) % Z ≤ p - q + Z - 1)) (B := fun z => decide ((q - z) % Z ≤ q - p - 1)) W fun z hz => by
    simp only [decide_eq_true_eq]
    have hz := hW z hz
    clear a b d cp cq hl hW
    rw [modsub ⟨hp, Int.lt_trans h hq⟩ hz, modsub ⟨Int.le_trans hp (Int.le_of_lt h), hq⟩ hz]
    split
    · split
      · omega
      · omega
    · split <;> omega
  unfold cnt at a b
  clear hp hq h cp cq hW
  omega
theorem left_uniq {Z p q : Int} {W : List Int} (hW : ∀ z ∈ W, 0 ≤ z ∧ z < Z) (hl : (W.length : Int) + 1 = Z) (hp : 0 ≤ p ∧ p < Z) (hq : 0 ≤ q ∧ q < Z)
    (cp : ∀ j : Int, 0 ≤ j → j < Z → cnt Z p j W ≤ j.toNat) (cq : ∀ j : Int, 0 ≤ j → j < Z → cnt Z q j W ≤ j.toNat) : p = q := by
  rcases Int.lt_trichotomy p q with h | h | h
  · exact (left_lt hW hl hp.1 hq.2 h cp cq).elim
  · exact h
  · exact (left_lt hW hl hq.1 hp.2 h cq cp).elim
/-- the places that the statement calls left -/
def leftOk (Z : Int) (W : List Int) (x : Int) : Bool := (rangeKs 0 Z.toNat).all fun j => decide (cnt Z x j W ≤ j.toNat)
theorem leftOk_iff {Z x : Int} {W : List Int} : leftOk Z W x = true ↔ ∀ j : Int, 0 ≤ j → j < Z → cnt Z x j W ≤ j.toNat := by
  unfold leftOk
  rw [List.all_eq_true]
  constructor
  · intro h j j0 j1
    simpa using h j (in_range ⟨j0, j1⟩)
  · intro h j hj
    have := mem_rangeKs hj
    simpa using h j (by omega) (by omega)
theorem filter_one {P : Int → Bool} {p : Int} : ∀ (l : List Int), l.Pairwise (· < ·) → p ∈ l → (∀ x ∈ l, P x = true ↔ x = p) → l.filter P = [p]
  | [], _, h, _ => by simp at h
  | x :: l, hs, hm, hu => by
    obtain ⟨h1, h2⟩ := List.pairwise_cons.mp hs
    by_cases e : x = p
    · subst e
      rw [List.filter_cons_of_pos ((hu x (.head _)).mpr rfl)]
      congr 1
      refine List.filter_eq_nil_iff.mpr fun y hy hP => ?_
      have := (hu y (.tail _ hy)).mp hP
      have := h1 y hy
      omega
    · rw [List.filter_cons_of_neg (fun hP => e ((hu x (.head _)).mp hP))]
      exact filter_one l h2 ((List.mem_cons.mp hm).resolve_left (Ne.symm e)) fun y hy => hu y (.tail _ hy)
theorem left_one {Z p : Int} {W : List Int} (hW : ∀ z ∈ W, 0 ≤ z ∧ z < Z) (hl : (W.length : Int) + 1 = Z) (hp : 0 ≤ p ∧ p < Z) (cp : leftOk Z W p = true) : (rangeKs 0 Z.toNat).filter (leftOk Z W) = [p] := by
  refine filter_one _ (range_srt _) (in_range hp) fun x hx => ⟨fun h => ?_, fun h => h ▸ cp⟩
  have := mem_rangeKs hx
  exact left_uniq hW hl (by omega) hp (leftOk_iff.mp h) (leftOk_iff.mp cp)
theorem modL (a b n : Int) : (a % n - b) % n = (a - b) % n := by rw [Int.sub_emod, Int.emod_emod, ← Int.sub_emod]
theorem modR (a b n : Int) : (a - b % n) % n = (a - b) % n := by rw [Int.sub_emod, Int.emod_emod, ← Int.sub_emod]
theorem addSub (p : Int) (x t : Nat) : p - ((x + t : Nat) : Int) = p - (t : Int) - (x : Int) := by omega
theorem sub1 (a p : Int) : a - p - 1 = a - (p + 1) := by omega
theorem sub1' (a p : Int) : a - p - 1 = a - 1 - p := by omega
theorem addSub' (p : Int) (x t : Nat) : ((x + t : Nat) : Int) - (p + 1) = (x : Int) - 1 - (p - (t : Int)) := by omega
/-- a turn moves all by one -/
theorem cnt_shift {Z p j : Int} (hZ : 4 ≤ Z ∧ Z ≤ 7) (t : Nat) (ws : List Nat) : cnt Z p j (resid Z (ws.map (· + t))) = cnt Z ((p - t) % Z) j (ws.map fun (x : Nat) => (x : Int)) := by
  unfold cnt resid
  rw [List.map_map, List.countP_map, List.countP_map]
  congr 1
  funext x
  simp only [Function.comp]
  congr 1
  rw [modR, modL, addSub]
theorem phi_shift {Z p : Int} (hZ : 4 ≤ Z ∧ Z ≤ 7) (t : Nat) (ws : List Nat) : phiSum Z p (resid Z (ws.map (· + t))) = phiSum Z ((p - t) % Z) (ws.map fun (x : Nat) => (x : Int)) := by
  unfold phiSum resid
  rw [List.map_map, List.map_map, List.map_map]
  congr 1
  refine List.map_congr_left fun x _ => ?_
  simp only [Function.comp, phi]
  rw [sub1 _ p, sub1' _ ((p - (t : Int)) % Z), modL, modR, addSub']
theorem cnt_rot {Z x j : Int} {l : List Int} (k : Nat) : cnt Z x j (l.drop k ++ l.take k) = cnt Z x j l := by
  rw [cnt_app, Nat.add_comm, ← cnt_app, List.take_append_drop]
theorem phi_rot {Z x : Int} {l : List Int} (k : Nat) : phiSum Z x (l.drop k ++ l.take k) = phiSum Z x l := by
  rw [phiSum_app, Int.add_comm, ← phiSum_app, List.take_append_drop]
theorem resid_rot {Z : Int} {ds : List Nat} (k : Nat) : resid Z (ds.drop k ++ ds.take k) = (resid Z ds).drop k ++ (resid Z ds).take k := by
  simp [resid, List.map_append, List.map_drop, List.map_take]
end Mine

-- part Plain2
namespace Mine
theorem leftOf_ex (r : Int) : ∀ f : List Int, f.Pairwise (· ≤ ·) → ∃ k, LeftOf f r k
  | [], _ => ⟨0, Nat.le_refl _, fun i h => by simp at h, fun i h => by simp at h⟩
  | x :: f, hs => by
    obtain ⟨s1, s2⟩ := List.pairwise_cons.mp hs
    by_cases hx : x < r
    · obtain ⟨k, h1, h2, h3⟩ := leftOf_ex r f s2
      refine ⟨k + 1, by simpa using h1, fun i hi hk => ?_, fun i hi hk => ?_⟩
      · cases i with
        | zero => exact hx
        | succ i => exact h2 i (by simpa using hi) (by omega)
      · cases i with
        | zero => omega
        | succ i => exact h3 i (by simpa using hi) (by omega)
    · refine ⟨0, Nat.zero_le _, fun i hi hk => by omega, fun i hi _ => ?_⟩
      cases i with
      | zero => exact Int.not_lt.mp hx
      | succ i =>
        have hi' : i < f.length := by simpa using hi
        have := s1 f[i] (List.getElem_mem hi')
        simp only [List.getElem_cons_succ]
        omega
theorem JJ.ends {Z : Int} {W : List Int} (hZ : 4 ≤ Z ∧ Z ≤ 7) : ∀ n qs f far, muQ qs = n → JJ Z W qs f far → ∃ f' far', JJ Z W [] f' far' := by
  intro n
  induction n using Nat.strongRecOn with
  | _ n ih =>
    intro qs f far hn h
    cases qs with
    | nil => exact ⟨f, far, h⟩
    | cons q qs =>
      obtain ⟨_, _, hs, _, _, _, _, hk⟩ := JJ.step hZ q qs f far h
      obtain ⟨k, hl⟩ := leftOf_ex ((q : Int) % Z) f hs
      obtain ⟨c1, c2⟩ := hk k hl
      have hmu : muQ (q :: qs) = (if q = 0 then 1 else 2) + muQ qs := rfl
      by_cases hkf : k = f.length
      · obtain ⟨hq, hj⟩ := c1 hkf
        rw [if_neg hq] at hmu
        exact ih (muQ (qs ++ [0])) (by rw [muQ_snoc]; omega) _ _ _ rfl hj
      · have hlt : k < f.length := by have := hl.1; omega
        have e : f = f.take k ++ f[k] :: f.drop (k + 1) := by rw [← List.drop_eq_getElem_cons hlt, List.take_append_drop]
        exact ih (muQ qs) (by split at hmu <;> omega) _ _ _ rfl (c2 _ _ _ e (by rw [List.length_take]; omega))
abbrev toI (ws : List Nat) : List Int := ws.map fun (x : Nat) => (x : Int)
theorem turn_fact {Z : Int} (hZ : 4 ≤ Z ∧ Z ≤ 7) {ws : List Nat} (hl : (ws.length : Int) + 1 = Z) (hw : ∀ x ∈ ws, (x : Int) < Z) {p0 F0 : Int} (h0 : 0 ≤ p0 ∧ p0 < Z) (hlo : leftOk Z (toI ws) p0 = true) (hF : 2 * (F0 + phiSum Z p0 (toI ws)) = (Z - 1) * (Z - 2))
    {t : Nat} {pp far : Int} (hp : 0 ≤ pp ∧ pp < Z) (hc : ∀ j : Int, 0 ≤ j → j < Z → cnt Z pp j (resid Z (ws.map (· + t))) ≤ j.toNat) (hf : 2 * (far + phiSum Z pp (resid Z (ws.map (· + t)))) = (Z - 1) * (Z - 2)) : pp = (p0 + t) % Z ∧ far = F0 := by
  have hW : ∀ z ∈ toI ws, 0 ≤ z ∧ z < Z := fun z hz => by
    obtain ⟨x, hx, rfl⟩ := List.mem_map.mp hz
    have := hw x hx
    omega
  have h1 : (pp - t) % Z = p0 := left_uniq hW (by simpa using hl) ⟨Int.emod_nonneg _ (by omega), Int.emod_lt_of_pos _ (by omega)⟩ h0
    (fun j j0 j1 => by have := hc j j0 j1; rwa [cnt_shift hZ] at this) (leftOk_iff.mp hlo)
  rw [phi_shift hZ, h1] at hf
  have hf2 : 2 * (far + phiSum Z p0 (toI ws)) = (Z - 1) * (Z - 2) := hf
  refine ⟨?_, by omega⟩
  have : Z = 4 ∨ Z = 5 ∨ Z = 6 ∨ Z = 7 := by omega
  rcases this with rfl | rfl | rfl | rfl <;> omega
theorem exists_left {Z : Int} (hZ : 4 ≤ Z ∧ Z ≤ 7) {ws : List Nat} (hl : (ws.length : Int) + 1 = Z) (hw : ∀ x ∈ ws, (x : Int) < Z) :
    ∃ p0 F0, (0 ≤ p0 ∧ p0 < Z) ∧ leftOk Z (toI ws) p0 = true ∧ 2 * (F0 + phiSum Z p0 (toI ws)) = (Z - 1) * (Z - 2) := by
  have hr : resid Z ws = toI ws := List.map_congr_left fun x hx => by
    have := hw x hx
    exact Int.emod_eq_of_lt (by omega) (by omega)
  have hs := JJ.start hZ ws hl fun q hq => by have := hw q hq; omega
  rw [hr] at hs
  obtain ⟨f, far, h⟩ := JJ.ends hZ _ _ _ _ rfl hs
  obtain ⟨p, rfl, h0, h1, hc, hf, _⟩ := JJ.done hZ h
  exact ⟨p, far, ⟨h0, h1⟩, leftOk_iff.mpr hc, hf⟩
end Mine

-- part Fit
section
open PySem.Builtin PySem.Builtin.Str
namespace Mine
def wantP (z : Int) : Str := Str.ofString "|" ++ Txt.mul (Str.ofString "x") z ++ Str.ofString "..."
def stairP (z : Int) : Str := Str.ofString "|" ++ Txt.mul (Str.ofString "x") z
def pieceL (k : Nat) : List Nat := 124 :: List.replicate k 120
theorem stairP_toList {z : Int} (h : 0 ≤ z) : (stairP z).cps.toList = pieceL z.toNat := by
  obtain ⟨n, rfl⟩ := Int.eq_ofNat_of_zero_le h
  unfold stairP pieceL
  rw [app_toList, show ((n : Nat) : Int) = ((n : Nat) : Int) from rfl, mul_one _ 120 (by decide +kernel)]
  rfl
theorem wantP_toList {z : Int} (h : 0 ≤ z) : (wantP z).cps.toList = pieceL z.toNat ++ [46, 46, 46] := by
  show (stairP z ++ Str.ofString "...").cps.toList = _
  rw [app_toList, stairP_toList h]
  rfl
theorem stairP_len {z : Int} (h : 0 ≤ z) : (stairP z).length = z.toNat + 1 := by
  rw [len_toList, stairP_toList h]; simp [pieceL]
theorem wantP_len {z : Int} (h : 0 ≤ z) : (wantP z).length = z.toNat + 4 := by
  rw [len_toList, wantP_toList h]; simp [pieceL]
theorem join_toList : ∀ texts : List Str, (Txt.join (Str.ofString "") texts).cps.toList = texts.flatMap fun x => x.cps.toList := by
  intro texts
  show (glued (Str.ofString "") texts).cps.toList = _
  rw [StrLaws.glued_eq_join]
  induction texts with
  | nil => rfl
  | cons x r ih =>
    cases r with
    | nil => show x.cps.toList = _; simp
    | cons y r =>
      show (x ++ Str.ofString "" ++ Str.join (Str.ofString "") (y :: r)).cps.toList = _
      rw [app_toList, app_toList, ih, show (Str.ofString "").cps.toList = [] by decide]
      simp

theorem subAt_list (s sub : Str) (i : Nat) : subAt s sub i = ((s.cps.toList.drop i).take sub.cps.toList.length == sub.cps.toList) := by
  unfold subAt
  rw [StrLaws.beq_toList, Array.toList_extract, List.extract_eq_take_drop, len_toList]
  simp

/-- where the dots stand -/
def cuts : Nat → List Str → List Nat
  | _, [] => []
  | a, p :: ps => (a + p.length) :: cuts (a + p.length + 3) ps
theorem occ_skip (s sub : Str) (hi lim : Nat) : ∀ (l : List Nat) (st : Array Nat × Nat), (∀ i ∈ l, ¬ ((st.2 ≤ i ∧ i + sub.length ≤ hi) ∧ subAt s sub i = true)) → (forIn l st (StrLaws.occBody s sub hi lim)).run = st
  | [], st, _ => rfl
  | a :: l, st, h => by
    rw [List.forIn_cons]
    have ha := h a (.head _)
    unfold StrLaws.occBody
    rw [if_neg (fun c => ha ⟨⟨c.1.1.2, c.1.2⟩, c.2⟩)]
    exact occ_skip s sub hi lim l st fun i hi' => h i (.tail _ hi')
theorem occ_app (s sub : Str) (hi lim : Nat) : ∀ (l r : List Nat) (st : Array Nat × Nat), (forIn (l ++ r) st (StrLaws.occBody s sub hi lim)).run = (forIn r (forIn l st (StrLaws.occBody s sub hi lim)).run (StrLaws.occBody s sub hi lim)).run
  | [], r, st => rfl
  | a :: l, r, st => by
    rw [List.cons_append, List.forIn_cons, List.forIn_cons]
    unfold StrLaws.occBody
    split
    · exact occ_app s sub hi lim l r _
    · exact occ_app s sub hi lim l r _
abbrev d3 : Str := Str.ofString "..."
theorem d3_list : d3.cps.toList = [46, 46, 46] := by decide
theorem d3_len : d3.length = 3 := by decide
def NoDot (p : Str) : Prop := ∀ c ∈ p.cps.toList, c ≠ 46
theorem sub_at_false {s : Str} {i : Nat} {c : Nat} {r : List Nat} (h : s.cps.toList.drop i = c :: r) (hc : c ≠ 46) : subAt s d3 i = false := by
  rw [subAt_list, h, d3_list]
  simp [hc]
theorem drop_piece {X : List Nat} {a : Nat} {p r : List Nat} (h : X.drop a = p ++ r) : X.drop (a + p.length) = r := by
  rw [← List.drop_drop, h]; simp
theorem occ_pieces (X last : Str) (hl : NoDot last) (lim : Nat) : ∀ (ps : List Str) (a free : Nat) (found : Array Nat), (∀ p ∈ ps, NoDot p) → free ≤ a → found.size + ps.length < lim → a ≤ X.length →
    X.cps.toList.drop a = (ps.flatMap fun p => p.cps.toList ++ [46, 46, 46]) ++ last.cps.toList →
    (forIn (List.range' a (X.length + 1 - a)) (found, free) (StrLaws.occBody X d3 X.length lim)).run.1.toList = found.toList ++ cuts a ps := by
  intro ps
  induction ps with
  | nil =>
    intro a free found _ hf hs ha hX
    rw [occ_skip]
    · simp [cuts]
    · rintro i hi ⟨⟨_, h2⟩, h3⟩
      rw [d3_len] at h2
      have hi1 := (List.mem_range'_1.mp hi).1
      have hlt : i < X.cps.toList.length := by rw [← len_toList]; omega
      have hd : X.cps.toList.drop i = X.cps.toList[i] :: X.cps.toList.drop (i + 1) := List.drop_eq_getElem_cons hlt
      have hm : X.cps.toList[i] ∈ last.cps.toList := by
        have : X.cps.toList.drop a = last.cps.toList := by simpa using hX
        rw [← this]
        exact List.mem_iff_getElem.mpr ⟨i - a, by rw [List.length_drop]; omega, by rw [List.getElem_drop]; congr 1; omega⟩
      rw [sub_at_false hd (hl _ hm)] at h3
      cases h3
  | cons p ps ih =>
    intro a free found hp hf hs ha hX
    have hpl : p.length = p.cps.toList.length := len_toList p
    have hX1 : X.cps.toList.drop a = p.cps.toList ++ ([46, 46, 46] ++ ((ps.flatMap fun p => p.cps.toList ++ [46, 46, 46]) ++ last.cps.toList)) := by rw [hX]; simp
    have hX2 := drop_piece hX1
    rw [← hpl] at hX2
    have hX3 := drop_piece hX2
    simp only [List.length_cons, List.length_nil] at hX3
    have hXl : a + p.length + 3 ≤ X.length := by
      have := congrArg List.length hX1
      simp only [List.length_drop, List.length_append, List.length_cons, List.length_nil] at this
      rw [len_toList X]; rw [← hpl] at this; omega
    have e : List.range' a (X.length + 1 - a) = List.range' a p.length ++ (List.range' (a + p.length) 1 ++ (List.range' (a + p.length + 1) 2 ++ List.range' (a + p.length + 3) (X.length + 1 - (a + p.length + 3)))) := by
      rw [show a + p.length + 3 = (a + p.length + 1) + 2 by omega, List.range'_append_1, List.range'_append_1, List.range'_append_1]
      congr 1; omega
    have skip1 : ∀ i ∈ List.range' a p.length, subAt X d3 i = false := by
      intro i hi
      have hi1 := List.mem_range'_1.mp hi
      have hlt : i < X.cps.toList.length := by rw [← len_toList]; omega
      have hd : X.cps.toList.drop i = X.cps.toList[i] :: X.cps.toList.drop (i + 1) := List.drop_eq_getElem_cons hlt
      refine sub_at_false hd (hp p (.head _) _ ?_)
      have h1 : (X.cps.toList.drop a)[i - a]'(by rw [List.length_drop]; omega) = X.cps.toList[i] := by rw [List.getElem_drop]; congr 1; omega
      rw [← h1]
      simp only [hX1]
      rw [List.getElem_append_left (by omega)]
      exact List.getElem_mem _
    have at1 : subAt X d3 (a + p.length) = true := by
      rw [subAt_list, hX2, d3_list]
      simp
    rw [e, occ_app, occ_skip X d3 X.length lim (List.range' a p.length) (found, free) (fun i hi c => by rw [skip1 i hi] at c; exact absurd c.2 (by decide))]
    rw [occ_app, show List.range' (a + p.length) 1 = [a + p.length] from rfl, List.forIn_cons]
    have b1 : StrLaws.occBody X d3 X.length lim (a + p.length) (found, free) = pure (ForInStep.yield (found.push (a + p.length), a + p.length + 3)) := by
      unfold StrLaws.occBody
      rw [if_pos ⟨⟨⟨by simp at hs ⊢; omega, by simp; omega⟩, by rw [d3_len]; omega⟩, at1⟩, d3_len]
    rw [b1]
    simp only [pure_bind, List.forIn_nil, Id.run_pure]
    rw [occ_app, occ_skip X d3 X.length lim (List.range' (a + p.length + 1) 2) (found.push (a + p.length), a + p.length + 3) (fun i hi c => by have := List.mem_range'_1.mp hi; have h2 : a + p.length + 3 ≤ i := c.1.1; omega)]
    rw [ih (a + p.length + 3) (a + p.length + 3) (found.push (a + p.length)) (fun q hq => hp q (.tail _ hq)) (Nat.le_refl _) (by simp at hs ⊢; omega) hXl hX3]
    simp [cuts]
theorem occ_all (X last : Str) (hl : NoDot last) (lim : Nat) (ps : List Str) (hp : ∀ p ∈ ps, NoDot p) (hs : ps.length < lim) (hX : X.cps.toList = (ps.flatMap fun p => p.cps.toList ++ [46, 46, 46]) ++ last.cps.toList) :
    occurrences X d3 0 X.length lim = cuts 0 ps := by
  rw [StrLaws.occ_eq]
  have := occ_pieces X last hl lim ps 0 0 #[] hp (Nat.le_refl _) (by simpa using hs) (Nat.zero_le _) (by simpa using hX)
  simpa using this
theorem sub_list (X : Str) (i j : Nat) : (strSub X i j).cps.toList = (X.cps.toList.drop i).take (j - i) := by
  unfold strSub
  rw [Array.toList_extract, List.extract_eq_take_drop]
theorem parts_all (X last : Str) : ∀ (ps : List Str) (a : Nat), X.cps.toList.drop a = (ps.flatMap fun p => p.cps.toList ++ [46, 46, 46]) ++ last.cps.toList → a ≤ X.length →
    ((a :: (cuts a ps).map (· + 3)).zip (cuts a ps ++ [X.length])).map (fun (i, j) => strSub X i j) = ps ++ [last] := by
  intro ps
  induction ps with
  | nil =>
    intro a hX ha
    simp only [cuts, List.map_nil, List.nil_append, List.zip_cons_cons, List.zip_nil_left, List.map_cons, List.cons.injEq, and_true]
    refine str_ext ?_
    rw [sub_list, hX]
    simp only [List.flatMap_nil, List.nil_append]
    refine List.take_of_length_le ?_
    have := congrArg List.length hX
    simp at this
    rw [len_toList X]; simp; omega
  | cons p ps ih =>
    intro a hX ha
    have hpl : p.length = p.cps.toList.length := len_toList p
    have hX1 : X.cps.toList.drop a = p.cps.toList ++ ([46, 46, 46] ++ ((ps.flatMap fun p => p.cps.toList ++ [46, 46, 46]) ++ last.cps.toList)) := by rw [hX]; simp
    have hX2 := drop_piece hX1
    rw [← hpl] at hX2
    have hX3 := drop_piece hX2
    simp only [List.length_cons, List.length_nil] at hX3
    have hXl : a + p.length + 3 ≤ X.length := by
      have := congrArg List.length hX1
      simp only [List.length_drop, List.length_append, List.length_cons, List.length_nil] at this
      rw [len_toList X]; rw [← hpl] at this; omega
    have h2 := ih (a + p.length + 3) hX3 hXl
    simp only [cuts, List.map_cons, List.cons_append, List.zip_cons_cons, List.cons.injEq]
    refine ⟨str_ext ?_, h2⟩
    rw [sub_list, hX1, hpl]
    simp
theorem kind_ge (x : Str) : 1 ≤ Builtin.Str.strKind x := by unfold Builtin.Str.strKind; split <;> (try split) <;> omega
theorem split_all (X last : Str) (hl : NoDot last) (p0 : Str) (ps : List Str) (hp : ∀ p ∈ p0 :: ps, NoDot p) (hX : X.cps.toList = ((p0 :: ps).flatMap fun p => p.cps.toList ++ [46, 46, 46]) ++ last.cps.toList) :
    Txt.split X d3 = (p0 :: ps) ++ [last] ∧ (occurrences X d3 0 X.length 1).isEmpty = false := by
  have hlen : 3 * (p0 :: ps).length ≤ X.length := by
    rw [len_toList, hX]
    generalize p0 :: ps = l
    clear hX hp
    induction l with
    | nil => simp
    | cons q l ih => simp only [List.flatMap_cons, List.length_append, List.length_cons, List.length_nil] at ih ⊢; omega
  have hocc := occ_all X last hl (X.length + 1) (p0 :: ps) hp (by omega) hX
  constructor
  · unfold Txt.split
    have k1 : Builtin.Str.strKind d3 = 1 := by decide +kernel
    have k2 := kind_ge X
    rw [if_neg (by rw [k1, d3_len]; simp only [Bool.or_eq_true, decide_eq_true_eq]; simp at hlen; omega), hocc, if_neg (by simp [cuts])]
    unfold partsBetween
    rw [d3_len]
    exact parts_all X last (p0 :: ps) 0 (by simpa using hX) (Nat.zero_le _)
  · have : (!(occurrences X d3 0 X.length 1).isEmpty) = true := by
      rw [StrLaws.found_iff]
      refine ⟨p0.length, ?_, ?_⟩
      · rw [d3_len, len_toList X, hX, len_toList p0]; simp <;> omega
      · rw [subAt_list, hX, d3_list, len_toList p0]
        simp
    simpa using this
end Mine
end

-- part Fit2
section
open PySem.Builtin PySem.Builtin.Str
namespace Mine
theorem occ_full (s sub : Str) (hi lim : Nat) : ∀ (l : List Nat) (st : Array Nat × Nat), lim ≤ st.1.size → (forIn l st (StrLaws.occBody s sub hi lim)).run = st
  | [], st, _ => rfl
  | a :: l, st, h => by
    rw [List.forIn_cons]
    unfold StrLaws.occBody
    rw [if_neg (fun c => by have := c.1.1.1; omega)]
    exact occ_full s sub hi lim l st h
theorem occ_first (s sub : Str) (hi : Nat) : ∀ (l : List Nat) (free : Nat), (∀ i ∈ l, free ≤ i) →
    (forIn l ((#[] : Array Nat), free) (StrLaws.occBody s sub hi 1)).run.1.toList = (l.find? fun i => decide (i + sub.length ≤ hi) && subAt s sub i).toList
  | [], free, _ => rfl
  | a :: l, free, hf => by
    rw [List.forIn_cons]
    unfold StrLaws.occBody
    have ha : free ≤ a := hf a (.head _)
    by_cases hc : a + sub.length ≤ hi ∧ subAt s sub a = true
    · rw [if_pos ⟨⟨⟨by simp, ha⟩, hc.1⟩, hc.2⟩]
      simp only [pure_bind]
      have := occ_full s sub hi 1 l (#[a], a + sub.length) (by simp)
      unfold StrLaws.occBody at this
      simp only [List.push_toArray, List.nil_append] at *
      rw [this, List.find?_cons_of_pos (by simp [hc.1, hc.2])]
      rfl
    · rw [if_neg (fun c => hc ⟨c.1.2, c.2⟩), List.find?_cons_of_neg (by simpa using hc)]
      exact occ_first s sub hi l free fun i hi' => hf i (.tail _ hi')
def posN (k : Nat) : Nat := k * (k + 1) / 2
def stairsL (n : Nat) : List Nat := ((List.range n).flatMap fun k => pieceL k) ++ [124]
def fndL (y : List Nat) (o hi st : Nat) : Option Nat := (List.range' st (hi + 1 - st)).find? fun i => decide (i + (o + 1) ≤ hi) && ((y.drop i).take (o + 1) == pieceL o)
theorem tab : ∀ n ∈ [3, 4, 5, 6], ∀ k ∈ List.range n, ∀ d ∈ List.range (k + 1), ∀ o ∈ List.range (n + 1), fndL (stairsL n) o (posN n) (posN k + 1 + d) = if max (k + 1) o < n then some (posN (max (k + 1) o)) else none := by decide +kernel
theorem tab0 : ∀ n ∈ [3, 4, 5, 6], ∀ o ∈ List.range (n + 1), (((stairsL n).take (o + 1) == pieceL o) = decide (o = 0)) ∧ (stairsL n).length = posN n + 1 ∧ o + 2 ≤ (stairsL n).length := by decide +kernel
theorem posN_succ : ∀ n ∈ [3, 4, 5, 6], ∀ k ∈ List.range n, posN k + k + 1 = posN (k + 1) ∧ posN (k + 1) ≤ posN n := by decide +kernel
theorem find3_stairs {n : Nat} (hn : n ∈ [3, 4, 5, 6]) {y : Str} (hy : y.cps.toList = stairsL n) {k d o : Nat} (hk : k < n) (hd : d ≤ k) (ho : o ≤ n) {p : Str} (hp : p.cps.toList = pieceL o) :
    find3 y p ((posN k + 1 + d : Nat) : Int) ((posN n : Nat) : Int) = if max (k + 1) o < n then ((posN (max (k + 1) o) : Nat) : Int) else -1 := by
  have hyl : y.length = posN n + 1 := by rw [len_toList, hy]; exact (tab0 n hn 0 (List.mem_range.mpr (by omega))).2.1
  have hpl : p.length = o + 1 := by rw [len_toList, hp]; simp [pieceL]
  have hps := posN_succ n hn k (List.mem_range.mpr hk)
  have f1 : fromIndex y.length ((posN k + 1 + d : Nat) : Int) = posN k + 1 + d := by unfold fromIndex; split <;> omega
  have f2 : min (fromIndex y.length ((posN n : Nat) : Int)) y.length = posN n := by unfold fromIndex; split <;> omega
  unfold find3
  rw [f1, f2, StrLaws.occ_eq, occ_first _ _ _ _ _ (fun i hi => (List.mem_range'_1.mp hi).1)]
  have ht := tab n hn k (List.mem_range.mpr hk) d (List.mem_range.mpr (by omega)) o (List.mem_range.mpr (by omega))
  have e : (fun i => decide (i + p.length ≤ posN n) && subAt y p i) = fun i => decide (i + (o + 1) ≤ posN n) && (((stairsL n).drop i).take (o + 1) == pieceL o) := by
    funext i
    rw [subAt_list, hp, hy, hpl]
    simp [pieceL]
  rw [e]
  unfold fndL at ht
  rw [ht]
  by_cases hc : max (k + 1) o < n
  · rw [if_pos hc, if_pos hc]; rfl
  · rw [if_neg hc, if_neg hc]; rfl
/-- the greedy walk over the stairs -/
def greedy (n : Nat) : Nat → List Nat → Bool
  | _, [] => true
  | k, o :: os => if max (k + 1) o < n then greedy n (max (k + 1) o) os else false
theorem emLoop_greedy {n : Nat} (hn : n ∈ [3, 4, 5, 6]) {y : Str} (hy : y.cps.toList = stairsL n) : ∀ (os : List Nat) (ps : List Str) (k d : Nat), k < n → d ≤ k → (∀ o ∈ os, o ≤ n) → ps.map (fun p => p.cps.toList) = os.map pieceL →
    emLoop y ((posN n : Nat) : Int) ps ((posN k + 1 + d : Nat) : Int) = greedy n k os := by
  intro os
  induction os with
  | nil => intro ps k d _ _ _ hps; cases ps with
    | nil => rfl
    | cons _ _ => simp at hps
  | cons o os ih =>
    intro ps k d hk hd ho hps
    cases ps with
    | nil => simp at hps
    | cons p ps =>
      simp only [List.map_cons, List.cons.injEq] at hps
      have hpl : p.length = o + 1 := by rw [len_toList, hps.1]; simp [pieceL]
      rw [emLoop, greedy, find3_stairs hn hy hk hd (ho o (.head _)) hps.1]
      by_cases hc : max (k + 1) o < n
      · rw [if_pos hc, if_pos hc, if_neg (by omega), hpl]
        rw [show ((posN (max (k + 1) o) : Nat) : Int) + ((o + 1 : Nat) : Int) = ((posN (max (k + 1) o) + 1 + o : Nat) : Int) by omega]
        exact ih ps _ o hc (by omega) (fun z hz => ho z (.tail _ hz)) hps.2
      · rw [if_neg hc, if_neg hc, if_pos (by omega)]
def leIdx : Nat → List Nat → Bool
  | _, [] => true
  | k, z :: l => decide (z ≤ k) && leIdx (k + 1) l
theorem greedy_short {n : Nat} : ∀ (os : List Nat) (k : Nat), k < n → n < k + 1 + os.length → greedy n k os = false
  | [], k, h1, h2 => by simp at h2; omega
  | o :: os, k, h1, h2 => by
    rw [greedy]
    split
    · rename_i hc
      exact greedy_short os _ hc (by simp at h2; omega)
    · rfl
theorem greedy_le {n : Nat} : ∀ (os : List Nat) (k : Nat), k < n → k + 1 + os.length = n → greedy n k os = leIdx (k + 1) os
  | [], k, h1, h2 => rfl
  | o :: os, k, h1, h2 => by
    rw [greedy, leIdx]
    simp only [List.length_cons] at h2
    by_cases ho : o ≤ k + 1
    · rw [show max (k + 1) o = k + 1 by omega, if_pos (by omega), greedy_le os (k + 1) (by omega) (by omega)]
      simp [ho]
    · rw [show max (k + 1) o = o by omega]
      simp only [ho, decide_false, Bool.false_and]
      split
      · rename_i hc
        exact greedy_short os o hc (by omega)
      · rfl
theorem fits_is {n : Nat} (hn : n ∈ [3, 4, 5, 6]) {y p0 : Str} (hy : y.cps.toList = stairsL n) (o0 : Nat) (os : List Nat) (ps : List Str) (h0 : p0.cps.toList = pieceL o0) (hps : ps.map (fun p => p.cps.toList) = os.map pieceL) (ho : ∀ o ∈ o0 :: os, o ≤ n) (hl : os.length + 1 = n) :
    (Txt.startswith y p0 && emLoop y ((y.length : Int) - ((1 : Nat) : Int)) ps (p0.length : Int)) = leIdx 0 (o0 :: os) := by
  have t0 := tab0 n hn o0 (List.mem_range.mpr (by have := ho o0 (.head _); omega))
  have hyl : y.length = posN n + 1 := by rw [len_toList, hy]; exact t0.2.1
  have hpl : p0.length = o0 + 1 := by rw [len_toList, h0]; simp [pieceL]
  have hs : Txt.startswith y p0 = decide (o0 = 0) := by
    unfold Txt.startswith
    rw [subAt_list, h0, hy, List.drop_zero, show (pieceL o0).length = o0 + 1 by simp [pieceL], t0.1, hpl, len_toList y, hy]
    have := t0.2.2
    simp only [Bool.and_eq_right_iff_imp, decide_eq_true_eq]
    intro _; omega
  rw [hs, leIdx]
  by_cases hz : o0 = 0
  · subst hz
    simp only [decide_true, Bool.true_and, Nat.le_refl]
    rw [hyl, hpl, show ((posN n + 1 : Nat) : Int) - ((1 : Nat) : Int) = ((posN n : Nat) : Int) by omega, show ((0 + 1 : Nat) : Int) = ((posN 0 + 1 + 0 : Nat) : Int) from rfl]
    have n0 : 0 < n := by simp at hn; omega
    rw [emLoop_greedy hn hy os ps 0 0 n0 (Nat.le_refl _) (fun z hz => ho z (.tail _ hz)) hps]
    exact greedy_le os 0 n0 (by omega)
  · simp [hz]
/-- sorted wishes fit the stairs just if the last place stays free -/
theorem leIdx_cnt : ∀ (l : List Nat) (k m : Nat), leIdx k l = true → m ≤ k + l.length → l.countP (fun z => decide (m ≤ z)) ≤ k + l.length - m
  | [], k, m, _, _ => by simp
  | z :: l, k, m, h, hm => by
    rw [leIdx, Bool.and_eq_true, decide_eq_true_eq] at h
    rw [List.countP_cons]
    by_cases hz : m ≤ z
    · have := List.countP_le_length (p := fun z => decide (m ≤ z)) (l := l)
      simp only [hz, decide_true, if_true, List.length_cons]
      omega
    · have := leIdx_cnt l (k + 1) m h.2 (by simp at hm; omega)
      simp only [hz, decide_false, Bool.false_eq_true, if_false, List.length_cons]
      simp at hm
      omega
theorem cnt_leIdx : ∀ (l : List Nat) (k : Nat), l.Pairwise (· ≤ ·) → (∀ m, k < m → m ≤ k + l.length → l.countP (fun z => decide (m ≤ z)) ≤ k + l.length - m) → leIdx k l = true
  | [], k, _, _ => rfl
  | z :: l, k, hs, h => by
    obtain ⟨s1, s2⟩ := List.pairwise_cons.mp hs
    rw [leIdx, Bool.and_eq_true, decide_eq_true_eq]
    constructor
    · apply Classical.byContradiction
      intro hz
      have h1 := h (k + 1) (by omega) (by simp only [List.length_cons]; omega)
      have h2 : (z :: l).countP (fun z => decide (k + 1 ≤ z)) = (z :: l).length := by
        rw [List.countP_eq_length]
        intro y hy
        rcases List.mem_cons.mp hy with rfl | hy
        · simp; omega
        · have := s1 y hy; simp; omega
      rw [h2] at h1
      simp at h1
      omega
    · refine cnt_leIdx l (k + 1) s2 fun m m1 m2 => ?_
      have h1 := h m (by omega) (by simp only [List.length_cons]; omega)
      rw [List.countP_cons] at h1
      simp at h1
      omega
end Mine
end

-- part Fit3
section
open PySem.Builtin PySem.Builtin.Str
namespace Mine
abbrev bar : Str := Str.ofString "|"
theorem bar_list : bar.cps.toList = [124] := by decide
theorem noDot_bar : NoDot bar := by unfold NoDot; rw [bar_list]; simp
theorem noDot_stair {z : Int} (h : 0 ≤ z) : NoDot (stairP z) := by
  unfold NoDot
  rw [stairP_toList h]
  intro c hc
  rcases List.mem_cons.mp hc with rfl | hc
  · decide
  · rw [(List.mem_replicate.mp hc).2]; decide
theorem flat_len {α : Type} {f : α → List Nat} {B : Nat} : ∀ (l : List α), (∀ p ∈ l, (f p).length ≤ B) → (l.flatMap f).length ≤ l.length * B
  | [], _ => by simp
  | p :: l, h => by
    have h1 := flat_len l fun q hq => h q (.tail _ hq)
    have h2 := h p (.head _)
    simp only [List.flatMap_cons, List.length_append, List.length_cons, Nat.succ_mul]
    omega
theorem flat_congr {α : Type} {f g : α → List Nat} : ∀ (l : List α), (∀ p ∈ l, f p = g p) → l.flatMap f = l.flatMap g
  | [], _ => rfl
  | p :: l, h => by rw [List.flatMap_cons, List.flatMap_cons, h p (.head _), flat_congr l fun q hq => h q (.tail _ hq)]
def StairS (n : Nat) : Str := Txt.join (Str.ofString "") ((rangeKs 0 n).map stairP) ++ bar
def WantS (os : List Int) : Str := Txt.join (Str.ofString "") (os.map wantP) ++ bar
theorem stairs_toList (n : Nat) : (StairS n).cps.toList = stairsL n := by
  unfold StairS
  rw [app_toList, join_toList, bar_list, stairsL]
  congr 1
  unfold rangeKs
  rw [List.map_map, List.flatMap_map]
  refine flat_congr _ fun k _ => ?_
  simp only [Function.comp]
  rw [stairP_toList (by omega)]
  congr 1
  omega
theorem stairs_len {n : Nat} (hn : n ∈ [3, 4, 5, 6]) : (StairS n).length = posN n + 1 := by
  rw [len_toList, stairs_toList]; exact (tab0 n hn 0 (List.mem_range.mpr (by omega))).2.1
theorem stairs_end (n : Nat) : Txt.endswith (StairS n) bar = true := by
  have e := stairs_toList n
  unfold stairsL at e
  have hl : (StairS n).length = ((List.range n).flatMap fun k => pieceL k).length + 1 := by rw [len_toList, e]; simp
  have b1 : bar.length = 1 := by decide
  unfold Txt.endswith
  rw [b1, subAt_list, e, hl, bar_list]
  simp
theorem want_toList {os : List Int} (h : ∀ z ∈ os, 0 ≤ z) : (WantS os).cps.toList = ((os.map stairP).flatMap fun p => p.cps.toList ++ [46, 46, 46]) ++ bar.cps.toList := by
  unfold WantS
  rw [app_toList, join_toList]
  congr 1
  rw [List.flatMap_map, List.flatMap_map]
  refine flat_congr _ fun z hz => ?_
  rw [wantP_toList (h z hz), stairP_toList (h z hz)]
theorem want_em {n : Nat} (hn : n ∈ [3, 4, 5, 6]) (os : List Int) (ho : ∀ z ∈ os, 0 ≤ z ∧ z ≤ (n : Int)) (hl : os.length = n) :
    ∃ p0 mid, Txt.split (WantS os) d3 = p0 :: (mid ++ [bar]) ∧ (occurrences (WantS os) d3 0 (WantS os).length 1).isEmpty = false ∧ 0 < p0.length ∧ p0.length + bar.length ≤ (StairS n).length ∧ mid.length < 1000 ∧ (WantS os).length < 10000 ∧ (StairS n).length < 10000 ∧
      (Txt.startswith (StairS n) p0 && emLoop (StairS n) (((StairS n).length : Int) - (bar.length : Int)) mid (p0.length : Int)) = leIdx 0 (os.map Int.toNat) := by
  have hn0 : 3 ≤ n ∧ n ≤ 6 := by simp at hn; omega
  have hp6 : posN n ≤ 21 ∧ n + 1 ≤ posN n := by simp at hn; rcases hn with rfl | rfl | rfl | rfl <;> decide
  obtain ⟨o0, os', rfl⟩ : ∃ o0 os', os = o0 :: os' := by
    cases os with
    | nil => simp at hl; omega
    | cons a b => exact ⟨a, b, rfl⟩
  have h0 := ho o0 (.head _)
  have hX := want_toList (os := o0 :: os') fun z hz => (ho z hz).1
  have hnd : ∀ p ∈ stairP o0 :: os'.map stairP, NoDot p := by
    intro p hp
    rcases List.mem_cons.mp hp with rfl | hp
    · exact noDot_stair h0.1
    · obtain ⟨z, hz, rfl⟩ := List.mem_map.mp hp
      exact noDot_stair (ho z (.tail _ hz)).1
  obtain ⟨s1, s2⟩ := split_all (WantS (o0 :: os')) bar noDot_bar (stairP o0) (os'.map stairP) hnd hX
  have hbl : bar.length = 1 := by decide
  have hfl : (WantS (o0 :: os')).length ≤ (o0 :: os').length * 20 + 1 := by
    rw [len_toList, hX, List.length_append, bar_list, List.flatMap_map]
    have := flat_len (f := fun z => (stairP z).cps.toList ++ [46, 46, 46]) (B := 20) (o0 :: os') fun z hz => by
      have h1 := ho z hz
      rw [stairP_toList h1.1]; simp [pieceL]; omega
    simp only [List.length_cons, List.length_nil] at this ⊢
    omega
  simp only [List.length_cons] at hl hfl
  refine ⟨stairP o0, os'.map stairP, s1, s2, by rw [stairP_len h0.1]; omega, by rw [stairP_len h0.1, hbl, stairs_len hn]; omega, by rw [List.length_map]; omega, by omega, by rw [stairs_len hn]; omega, ?_⟩
  rw [hbl]
  refine fits_is hn (stairs_toList n) o0.toNat (os'.map Int.toNat) (os'.map stairP) (stairP_toList h0.1) ?_ ?_ (by rw [List.length_map]; omega)
  · rw [List.map_map, List.map_map]
    refine List.map_congr_left fun z hz => ?_
    exact stairP_toList (ho z (.tail _ hz)).1
  · intro o hm
    rcases List.mem_cons.mp hm with rfl | hm
    · omega
    · obtain ⟨z, hz, rfl⟩ := List.mem_map.mp hm
      have := ho z (.tail _ hz)
      omega
theorem cnt_last {Z j : Int} {os : List Int} (hj : 0 ≤ j ∧ j < Z) (ho : ∀ z ∈ os, 0 ≤ z ∧ z < Z) : cnt Z (Z - 1) j os = (os.map Int.toNat).countP fun z => decide ((Z - 1 - j).toNat ≤ z) := by
  unfold cnt
  rw [List.countP_map]
  refine List.countP_congr fun z hz => ?_
  have := ho z hz
  simp only [Function.comp, decide_eq_true_eq]
  rw [ms_le ⟨by omega, by omega⟩ this (by omega)]
  omega
theorem fits_last {Z p : Int} (os W : List Int) (hs : os.Pairwise (· ≤ ·)) (hpm : os.Perm W) (hW : ∀ z ∈ W, 0 ≤ z ∧ z < Z) (hl : (W.length : Int) + 1 = Z) (hp : 0 ≤ p ∧ p < Z) (cp : ∀ j : Int, 0 ≤ j → j < Z → cnt Z p j W ≤ j.toNat) :
    leIdx 0 (os.map Int.toNat) = decide (p = Z - 1) := by
  have ho : ∀ z ∈ os, 0 ≤ z ∧ z < Z := fun z hz => hW z (hpm.mem_iff.mp hz)
  have hlo : (os.length : Int) + 1 = Z := by rw [hpm.length_eq]; exact hl
  have hcp : ∀ x j, cnt Z x j os = cnt Z x j W := fun x j => hpm.countP_eq _
  rw [Bool.eq_iff_iff, decide_eq_true_eq]
  constructor
  · intro h
    refine left_uniq hW hl hp ⟨by omega, by omega⟩ cp fun j j0 j1 => ?_
    rw [← hcp, cnt_last ⟨j0, j1⟩ ho]
    have := leIdx_cnt _ 0 (Z - 1 - j).toNat h (by rw [List.length_map]; omega)
    rw [List.length_map] at this
    omega
  · rintro rfl
    refine cnt_leIdx _ 0 ?_ fun m m0 m1 => ?_
    · rw [List.pairwise_map]
      exact hs.imp fun h => by omega
    · rw [List.length_map] at m1 ⊢
      have := cp (Z - 1 - (m : Int)) (by omega) (by omega)
      rw [← hcp, cnt_last ⟨by omega, by omega⟩ ho] at this
      rw [show (Z - 1 - (Z - 1 - (m : Int))).toNat = m by omega] at this
      omega
end Mine
end

-- part Rec
section
open PySem.Calls
namespace Mine
/-- what is told of one turn: a list of six -/
structure TRec where
  (RT RL FL : Nat)
  (vsR : List Value)
  (kR kf kT : Nat)
  (p far : Int)
  (tq tn tff : Tok)
def TRec.led (Z : Int) (r : TRec) : List (Addr × Obj) :=
  [(r.RT, W.listOf #[.ref r.RL, .int Z r.tn, .ref r.FL, .int r.far r.tff, .bool (decide (r.p = Z - 1)), .bool (!decide (r.p = Z - 1))] r.kT), (r.RL, W.listOf r.vsR.toArray r.kR), (r.FL, W.listOf #[.int r.p r.tq] r.kf)]
def TRec.Ok (Z : Int) (ws : List Nat) (p0 F0 : Int) (t : Nat) (r : TRec) : Prop := RowsAre r.vsR (ws.map (· + t)) ∧ r.p = (p0 + t) % Z ∧ r.far = F0
def recsLed (Z : Int) (rs : List TRec) : List (Addr × Obj) := rs.flatMap (TRec.led Z)
def recsVal (rs : List TRec) : List Value := rs.map fun r => .ref r.RT
def RecsOk (Z : Int) (ws : List Nat) (p0 F0 : Int) (rs : List TRec) : Prop := ∀ (k : Nat) (r : TRec), rs[k]? = some r → r.Ok Z ws p0 F0 (k + 1)
theorem recsOk_snoc {Z : Int} {ws : List Nat} {p0 F0 : Int} {rs : List TRec} {r : TRec} {i : Nat} (hi : rs.length = i) (h : RecsOk Z ws p0 F0 rs) (hr : r.Ok Z ws p0 F0 (i + 1)) : RecsOk Z ws p0 F0 (rs ++ [r]) := by
  intro k q hq
  rw [List.getElem?_append] at hq
  split at hq
  · exact h k q hq
  · rename_i hk
    cases e : k - rs.length with
    | zero =>
      rw [e] at hq
      simp at hq
      subst hq
      rw [show k = i by omega]; exact hr
    | succ j => rw [e] at hq; simp at hq
theorem recsLed_snoc {Z : Int} {rs : List TRec} {r : TRec} : recsLed Z (rs ++ [r]) = recsLed Z rs ++ r.led Z := by simp [recsLed]
theorem recsVal_snoc {rs : List TRec} {r : TRec} : recsVal (rs ++ [r]) = recsVal rs ++ [.ref r.RT] := by simp [recsVal]
/-- every object of the told is a list -/
def IsL (o : Obj) : Prop := ∃ its n, o = W.listOf its n
theorem recsLed_isL {Z : Int} {rs : List TRec} : ∀ q ∈ recsLed Z rs, IsL q.2 := by
  intro q hq
  obtain ⟨r, _, hq⟩ := List.mem_flatMap.mp hq
  simp only [TRec.led, List.mem_cons, List.not_mem_nil, or_false] at hq
  rcases hq with rfl | rfl | rfl <;> exact ⟨_, _, rfl⟩
/-- the objects of the code table -/
def IsTab (o : Obj) : Prop := (∃ vs, o = tabObj vs) ∨ CodeOk o
def TabSt (TB : List (Addr × Obj)) : Prop := TB = [(126, tabObj #[])] ∨ ∃ (RC : Nat) (oc : Obj), CodeOk oc ∧ RC ≠ 126 ∧ TB = [(126, tabObj (tabFull RC)), (RC, oc)]
theorem TabSt.isTab {TB : List (Addr × Obj)} (h : TabSt TB) : ∀ q ∈ TB, IsTab q.2 := by
  intro q hq
  rcases h with rfl | ⟨RC, oc, h1, _, rfl⟩
  · rw [List.mem_singleton.mp hq]; exact .inl ⟨_, rfl⟩
  · rcases List.mem_cons.mp hq with rfl | hq
    · exact .inl ⟨_, rfl⟩
    · rw [List.mem_singleton.mp hq]; exact .inr h1
theorem tab_ne_list {o o' : Obj} (h : IsTab o) (h' : IsL o') : o' ≠ o := by
  obtain ⟨its, n, rfl⟩ := h'
  rintro rfl
  rcases h with ⟨vs, e⟩ | ⟨vs, t, e, _⟩
  · simp [tabObj] at e
  · cases e
theorem tab_ne_rg {o : Obj} {a b : Int} (h : IsTab o) : rgI a b ≠ o := by
  rintro rfl
  rcases h with ⟨vs, e⟩ | ⟨vs, t, e, e2⟩
  · simp [rgI, tabObj] at e
  · simp only [rgI] at e
    injection e with e
    subst e
    simp [rawInt] at e2
/-- one heap, two objects: two places -/
theorem newsNe {g h : Heap} {L a b : Nat} {o o' : Obj} {l l' : List (Addr × Obj)} (N : News g L h l) (N' : News g L h l') (h1 : (a, o) ∈ l) (h2 : (b, o') ∈ l') (hne : o ≠ o') : a ≠ b := by
  rintro rfl
  have e1 := (N _ h1).1
  have e2 := (N' _ h2).1
  dsimp only at e1 e2
  rw [e1] at e2
  exact hne (Option.some.inj e2)
theorem notTab {g h : Heap} {L : Nat} {l TB : List (Addr × Obj)} {q : Addr × Obj} (N : News g L h l) (hT : TabSt TB) (hTB : ∀ q ∈ TB, q ∈ l) (hq : q ∈ l) (hne : ∀ o, IsTab o → q.2 ≠ o) : q.1 ∉ TB.map (·.1) := by
  intro hm
  obtain ⟨q', h', e⟩ := List.mem_map.mp hm
  exact newsNe (a := q.1) (b := q'.1) (o := q.2) (o' := q'.2) N N hq (hTB q' h') (hne _ (hT.isTab q' h')) e.symm
section
variable {prog : Program} {w : World} {A : Around} {E : Value → Shared → Prop} {s : Shared} {h₀ : Heap} {L : Addr} {m : Str → Option Value} {news news' : List (Addr × Obj)}
theorem appendL {D : Addr} {vs : List Value} {n : Nat} {x : Value} {Q : Value → Shared → Prop} (F : Fr h₀ L s.heap m) (N : News h₀ L s.heap news) (U : Upd D (W.listOf vs.toArray n) (W.listOf (vs ++ [x]).toArray (n + 1)) news news') (hz : vs.length < 2 ^ 20)
    (h : ∀ h', Fr h₀ L h' m → News h₀ L h' news' → Q .none { s with heap := h' }) : wpAny (model prog w) A (call (.builtin "list.append") [.ref D, x]) Q E s := by
  obtain ⟨pre, post, rfl, rfl, h1, h2⟩ := U.split
  have hD := N (D, W.listOf vs.toArray n) (by simp)
  refine append_at hD.1 (fun h' hs ho => h h' (F.change hs hD.2.1 hD.2.2) (news_set N h1 h2 hs ?_)) (by rw [sizeLine_eq]; simp; omega)
  rw [ho, List.push_toArray]
end
end Mine
end

-- part Ts0
namespace Mine
def mrows (ws : List Nat) : Nat → List (Nat × List Nat)
  | 0 => mailR 0 ws
  | t + 1 => (mrows ws t).map fun r => (r.1 + 1, [13, 10])
theorem endsOf_ok (k : Nat) : EndOk (endsOf k) := by
  unfold endsOf EndOk
  split
  · exact .inl rfl
  · split
    · exact .inr (.inl rfl)
    · exact .inr (.inr rfl)
theorem mailR_ok : ∀ (ws : List Nat) (k B : Nat), (∀ x ∈ ws, x < B) → ∀ r ∈ mailR k ws, 1 ≤ r.1 ∧ r.1 ≤ B ∧ EndOk r.2
  | [], _, _, _, r, h => by simp [mailR] at h
  | x :: ws, k, B, hB, r, h => by
    have := hB x (.head _)
    rcases List.mem_cons.mp h with rfl | h
    · exact ⟨by simp, by simp; omega, endsOf_ok k⟩
    · exact mailR_ok ws (k + 1) B (fun y hy => hB y (.tail _ hy)) r h
theorem mailR_fst : ∀ (ws : List Nat) (k : Nat), (mailR k ws).map (·.1) = ws.map (· + 1)
  | [], _ => rfl
  | x :: ws, k => by simp [mailR, mailR_fst ws (k + 1)]
theorem mrows_fst (ws : List Nat) : ∀ t, (mrows ws t).map (·.1) = ws.map (· + (1 + t))
  | 0 => mailR_fst ws 0
  | t + 1 => by
    have := mrows_fst ws t
    simp only [mrows, List.map_map]
    rw [show (Prod.fst ∘ fun (r : Nat × List Nat) => (r.1 + 1, [13, 10])) = (fun x => x + 1) ∘ (·.1) from rfl, ← List.map_map, this, List.map_map]
    refine List.map_congr_left fun x _ => ?_
    simp only [Function.comp]; omega
theorem mrows_ok (ws : List Nat) (B : Nat) (hB : ∀ x ∈ ws, x < B) : ∀ t, ∀ r ∈ mrows ws t, 1 ≤ r.1 ∧ r.1 ≤ B + t ∧ EndOk r.2
  | 0 => mailR_ok ws 0 B hB
  | t + 1 => by
    intro r hr
    obtain ⟨q, hq, rfl⟩ := List.mem_map.mp hr
    have := mrows_ok ws B hB t q hq
    exact ⟨by simp, by simp; omega, .inr (.inr rfl)⟩
theorem mrows_len (ws : List Nat) (t : Nat) : (mrows ws t).length = ws.length := by
  have := congrArg List.length (mrows_fst ws t)
  simpa using this
theorem mrows_succ (ws : List Nat) (t : Nat) : mrows ws (t + 1) = (ws.map (· + (t + 1))).map fun d => (d + 1, [13, 10]) := by
  have h := mrows_fst ws t
  show (mrows ws t).map (fun r => (r.1 + 1, [13, 10])) = _
  rw [show (fun (r : Nat × List Nat) => (r.1 + 1, [13, 10])) = (fun (x : Nat) => (x + 1, [13, 10])) ∘ (·.1) from rfl, ← List.map_map, h, List.map_map, List.map_map]
  refine List.map_congr_left fun x _ => ?_
  simp only [Function.comp]
  congr 1
  omega
theorem rowsT_bound {B : Nat} : ∀ rs : List (Nat × List Nat), (∀ r ∈ rs, r.1 + r.2.length ≤ B) → (rowsT rs).length ≤ B * rs.length
  | [], _ => by simp [rowsT]
  | r :: rs, h => by
    have h1 := rowsT_bound rs fun q hq => h q (.tail _ hq)
    have h2 := h r (.head _)
    obtain ⟨a, e⟩ := r
    simp only [rowsT, List.length_append, List.length_replicate, List.length_cons, Nat.mul_succ] at h1 h2 ⊢
    omega
theorem mrows_bound (ws : List Nat) (hB : ∀ x ∈ ws, x < 10) (hl : ws.length ≤ 10) (t : Nat) (ht : t ≤ 20) : (rowsT (mrows ws t)).length ≤ 2 ^ 18 := by
  have := rowsT_bound (B := 40) (mrows ws t) fun r hr => by
    obtain ⟨h1, h2, h3⟩ := mrows_ok ws 10 hB t r hr
    rcases h3 with e | e | e <;> rw [e] <;> simp <;> omega
  rw [mrows_len] at this
  omega
/-- one heap's iterator stands apart from lists and from the code table -/
theorem off_rg {g h : Heap} {L J : Nat} {a b : Int} {l : List (Addr × Obj)} (N : News g L h ((J, rgI a b) :: l)) (hk : ∀ q ∈ l, IsL q.2 ∨ IsTab q.2) : ∀ q ∈ l, q.1 ≠ J := by
  intro q hq
  refine newsNe N N (.tail _ hq) (.head _) ?_
  rcases hk q hq with h | h
  · obtain ⟨its, n, e⟩ := h
    rw [e]; simp [rgI]
  · exact (tab_ne_rg h).symm
theorem isL_ne_tab {q : Addr × Obj} (h : IsL q.2) : ∀ o, IsTab o → q.2 ≠ o := fun _ ho => tab_ne_list ho h
theorem fmod_nat {i n : Nat} (hn : 0 < n) : ((1 : Int) + (i : Int)).fmod (n : Int) = (((1 + i) % n : Nat) : Int) := by
  rw [Int.fmod_eq_emod_of_nonneg _ (by omega), Int.natCast_emod, Int.natCast_add]
  rfl
end Mine

-- part CJ
section
open PySem.Calls
namespace Mine
abbrev dict0 : Obj := { cls := .type "dict", data := .dict #[] }
abbrev cell0 : Obj := { cls := .type "cell", data := .cell none }
section
variable {prog : Program} {w : World} {A : Around} {E : Value → Shared → Prop} {R : Result → Shared → Prop} {s : Shared} {h₀ : Heap} {L : Addr} {m : Str → Option Value} {env : Env} {news : List (Addr × Obj)}
theorem fr_same {c : Addr} {o : Obj} {h h' : Heap} (F : Fr h₀ L h m) (N : News h₀ L h news) (hm : (c, o) ∈ news) (hs : Heap.SameBut c h h') : Fr h₀ L h' m := F.change hs (N _ hm).2.1 (N _ hm).2.2
theorem news_same {c : Addr} {o o' : Obj} {h h' : Heap} (N : News h₀ L h ((c, o) :: news)) (hne : ∀ p ∈ news, p.1 ≠ c) (hs : Heap.SameBut c h h') (ho : h'.get? c = some o') : News h₀ L h' ((c, o') :: news) :=
  news_set (pre := []) N (fun _ h => nomatch h) hne hs ho
theorem ns_dict0 {h : Heap} {C : Addr} (e : h.get? C = some dict0) : h.Ns C (fun name => nsFind #[] name) := ⟨dict0, #[], _, e, rfl, by intro i hi; simp at hi, fun _ => rfl⟩
theorem compStart_go {elt : Expr} {gens : List Comprehension} {scope : Scope} {pos : Pos} {d : Nat} {it acc : Value} {g : Comprehension} (hg : gens[d]? = some g) (hga : (g.is_async != 0) = false)
    (hself : ∀ (Q E : Value → Shared → Prop), Q it s → wpAny (model prog w) A (pyIter it) Q E s)
    (h0 : codeAny (model prog w) A (.compLoop (.ListComp elt gens scope pos) d it acc env) R s) : codeAny (model prog w) A (.compStart (.ListComp elt gens scope pos) d it acc env) R s := by
  refine codeAny_of_tree ?_
  show wpAny _ _ ((compStart (.ListComp elt gens scope pos) d it acc env).onRaise (fun x => do noteFrame x env; standAt theWindowsPlace)) _ _ s
  refine wpAny_notedAt ?_
  unfold compStart
  have hc : clausesOf (.ListComp elt gens scope pos) = gens := rfl
  rw [hc, hg]
  simp only [Option.elim, hga, Bool.false_eq_true, if_false]
  refine wpAny_bind (wpAny_askSetting (wpAny_ite ?_))
  split
  · first
      | exact wpAny_bind (wpAny_pure (wpAny_pure (And.intro rfl h0)))
      | exact wpAny_pure (And.intro rfl h0)
  · refine wpAny_bind (wpAny_rule ?_)
    first
      | exact wpAny_bind (wpAny_standAt (wpAny_bind (hself _ _ (wpAny_pure (And.intro rfl h0)))))
      | exact wpAny_bind (wpAny_bind (wpAny_standAt (wpAny_bind (hself _ _ (wpAny_pure (And.intro rfl h0))))))
/-- the room of a comprehension: a dict, and a cell where its letter is kept for another -/
theorem compEnv_plain {scope : Scope} {cl : List (Str × Addr)} {Q : Env → Shared → Prop} (F : Fr h₀ L s.heap m) (N : News h₀ L s.heap news) (hcf : ∀ n, cellsFrom n scope.names cl = cl) (hpc : ∀ h, pushCells h scope.names = h)
    (h : ∀ C h', Fr h₀ L h' m → News h₀ L h' ((C, dict0) :: news) → (∀ p ∈ news, p.1 < C) → Q { scope := scope, locals := C, globals := env.globals, cells := cl, qual := env.qual, func := none, code := env.code, frame := env.frame, builtins := env.builtins } { s with heap := h' }) :
    wpAny (model prog w) A (newFunctionEnv scope env.globals cl [] env.qual none .none (some env)) Q E s := by
  simp only [newFunctionEnv, Option.isSome_some, if_true]
  refine wpAny_bind (wpAny_alloc ?_)
  refine wpAny_bind (wpAny_layCells _ (fun name kind cells => by cases hkc : kind == NameKind.cell <;> simp [hkc]) _ _ _ _ ?_)
  rw [hcf]
  simp only [hpc]
  refine wpAny_bind ?_
  rw [List.forIn_nil]
  refine wpAny_pure (wpAny_pure ?_)
  exact h _ _ (F.push _) (News.push F N _) (fun p hp => Heap.lt_size (N p hp).1)
theorem compEnv_cell {scope : Scope} {cl : List (Str × Addr)} {x : Str} {Q : Env → Shared → Prop} (F : Fr h₀ L s.heap m) (N : News h₀ L s.heap news) (hcf : ∀ n, cellsFrom n scope.names cl = (x, n) :: cl) (hpc : ∀ h, pushCells h scope.names = h.push cell0)
    (h : ∀ C J h', Fr h₀ L h' m → News h₀ L h' ((J, cell0) :: (C, dict0) :: news) → (∀ p ∈ (C, dict0) :: news, p.1 < J) → (∀ p ∈ news, p.1 < C) → Q { scope := scope, locals := C, globals := env.globals, cells := (x, J) :: cl, qual := env.qual, func := none, code := env.code, frame := env.frame, builtins := env.builtins } { s with heap := h' }) :
    wpAny (model prog w) A (newFunctionEnv scope env.globals cl [] env.qual none .none (some env)) Q E s := by
  simp only [newFunctionEnv, Option.isSome_some, if_true]
  refine wpAny_bind (wpAny_alloc ?_)
  refine wpAny_bind (wpAny_layCells _ (fun name kind cells => by cases hkc : kind == NameKind.cell <;> simp [hkc]) _ _ _ _ ?_)
  rw [hcf]
  simp only [hpc]
  refine wpAny_bind ?_
  rw [List.forIn_nil]
  refine wpAny_pure (wpAny_pure ?_)
  have F1 := F.push dict0
  have N1 := News.push F N dict0
  exact h _ _ _ (F1.push _) (News.push F1 N1 _) (fun p hp => Heap.lt_size (N1 p hp).1) (fun p hp => Heap.lt_size (N p hp).1)
theorem rg_self {I : Addr} {a : Int} {n : Nat} {Q E : Value → Shared → Prop} (hh : A.handled = none) (h : s.heap.get? I = some (rgI a (n : Int))) (hq : Q (.ref I) s) : wpAny (model prog w) A (pyIter (.ref I)) Q E s :=
  (LCg.range_walks (prog := prog) (w := w) hh a n).self 0 s Q E (by simpa [IsRangeIter] using h) hq
theorem li_self {I l : Addr} {i : Nat} {o : Obj} {Q E : Value → Shared → Prop} (h : s.heap.get? I = some o) (ho : LiO l i o) (hq : Q (.ref I) s) : wpAny (model prog w) A (pyIter (.ref I)) Q E s :=
  wpAny_pyIter_listiter (l := l) (i := i) ⟨o, h, ho.1, ho.2⟩ hq
/-- what a turn's test leaves -/
inductive CrT (h₀ : Heap) (L : Addr) (m : Str → Option Value) (s₁ : Shared) (led : List (Addr × Obj)) (b : Bool) (ok : Bool) (s' : Shared) : Prop
  | mk (eb : ok = b) (h' : Heap) (tk' : Nat) (e : s' = { s₁ with heap := h', toks := tk' }) (F : Fr h₀ L h' m) (N : News h₀ L h' led)
/-- what the range's list is asked for -/
inductive CrH (prog : Program) (w : World) (A : Around) (h₀ : Heap) (L : Addr) (m : Str → Option Value) (env : Env) (x : Str) (ct : Expr) (scope : Scope) (cl : List (Str × Addr)) (T : Int → Bool) (n : Nat) (Q : Value → Shared → Prop) (xv : Value) (s₁ : Shared) : Prop
  | mk (r : Addr) (b : Int) (t u v : Tok) (news : List (Addr × Obj)) (e : xv = .ref r) (F : Fr h₀ L s₁.heap m) (N : News h₀ L s₁.heap news) (hr : IsRange s₁.heap r 0 b 1 t u v) (eb : b = (n : Int))
    (hturn : ∀ (i : Nat) ti I oI C oC J oJ D ys h tk (E' : Value → Shared → Prop), i < n → oJ.data = .cell (some (.int (i : Int) ti)) → Fr h₀ L h m → News h₀ L h ((J, oJ) :: (I, oI) :: (C, oC) :: (D, LCg.lst ys) :: news) → (∀ q ∈ news, q.1 ≠ J ∧ q.1 ≠ I ∧ q.1 ≠ C ∧ q.1 ≠ D) →
        wpAny (model prog w) A (isTrue ct (compEnvC scope ((x, J) :: cl) C env) (eval ct (compEnvC scope ((x, J) :: cl) C env))) (CrT h₀ L m s₁ ((J, oJ) :: (I, oI) :: (C, oC) :: (D, LCg.lst ys) :: news) (T (i : Int))) E' { s₁ with heap := h, toks := tk })
    (hfin : ∀ D ys h tk, IntsAre ys ((rangeKs 0 n).filter T) → Fr h₀ L h m → News h₀ L h ((D, LCg.lst ys) :: news) → (∀ q ∈ news, q.1 < D) → Q (.ref D) { s₁ with heap := h, toks := tk })
inductive CrI (h₀ : Heap) (L : Addr) (m : Str → Option Value) (s₁ : Shared) (I J C D : Addr) (n : Nat) (T : Int → Bool) (news : List (Addr × Obj)) (k : Nat) (s' : Shared) : Prop
  | mk (h' : Heap) (tk i : Nat) (ys : List Value) (oJ : Obj) (vJ : Option Value) (e : s' = { s₁ with heap := h', toks := tk }) (F : Fr h₀ L h' m) (N : News h₀ L h' ((I, rgI (i : Int) ((n : Int) - (i : Int))) :: (J, oJ) :: (C, dict0) :: (D, LCg.lst ys) :: news))
    (hoJ : oJ.data = .cell vJ) (hys : IntsAre ys ((rangeKs 0 i).filter T)) (hyl : ys.length ≤ i) (ek : k = n - i) (hi : i ≤ n)
theorem cr_rg {n : Nat} (h : n < 2 ^ 20) : -(2 ^ 60) ≤ (0 : Int) ∧ (0 : Int) < 2 ^ 60 ∧ -(2 ^ 60) ≤ (n : Int) ∧ (n : Int) < 2 ^ 60 := by omega
theorem cr_sz {a i n : Nat} (h : a ≤ i) (hi : i < n) (hn : n < 2 ^ 20) : a < 2 ^ 20 := by omega
theorem cr_le {l : List Value} {v : Value} {i : Nat} (h : l.length ≤ i) : (l ++ [v]).length ≤ i + 1 := by simp; omega
theorem cr_i (i : Nat) : ((i + 1 : Nat) : Int) = (i : Int) + 1 := by omega
theorem lst_snoc (ys : List Value) (v : Value) : LCg.lst (ys ++ [v]) = W.listOf (ys ++ [v]).toArray (ys.length + 1) := by simp [LCg.lst]
theorem filter_step (T : Int → Bool) (i : Nat) : (rangeKs 0 (i + 1)).filter T = (rangeKs 0 i).filter T ++ if T (i : Int) = true then [(i : Int)] else [] := by
  rw [show rangeKs 0 (i + 1) = rangeKs 0 i ++ [(0 : Int) + (i : Int)] by simp [rangeKs, List.range_succ], List.filter_append, Int.zero_add]
  cases hT : T (i : Int) <;> simp [hT]
/-- a list comprehension over range(n) with one test, whose letter an inner comprehension reads: the letter's own value is the element -/
theorem ListComp_cellRange {x : Str} {pe px : Pos} {iter ct : Expr} {scope : Scope} {cl : List (Str × Addr)} {pos : Pos} {Q : Value → Shared → Prop} {n : Nat} (F₀ : Fr h₀ L s.heap m) (T : Int → Bool) (hh : A.handled = none) (hn20 : n < 2 ^ 20)
    (hclos : closureFor scope env = pure cl) (hkind : scope.kind = .function) (hnames : ∀ y ∈ scope.names, y.2 = .local → scope.names.lookup y.1 = some .local)
    (hxk : ∀ C J, (compEnvC scope ((x, J) :: cl) C env).kindOf x = some .cell) (hcf : ∀ k, cellsFrom k scope.names cl = (x, k) :: cl) (hpc : ∀ h, pushCells h scope.names = h.push cell0) (hxd : (x == ("__debug__" : Str)) = false)
    (h : wpAny (model prog w) A (eval iter env) (CrH prog w A h₀ L m env x ct scope cl T n Q) E s)
    (hs : ∀ x, foldedSetIterable iter env x = pure x := by intro _; rfl) :
    wpAny (model prog w) A (eval (.ListComp (.Name x pe) [⟨.Name x px, iter, [ct], 0⟩] scope pos) env) Q E s := by
  rw [eval_ListComp]
  refine wpAny_comprehension_free (use := none) rfl hs hclos hkind hnames (wpAny_mono h (fun xv s₁ h₁ => ?_) fun _ _ e => e)
  obtain ⟨r, b, t, u, v, news, rfl, F, N, hr, rfl, hturn, hfin⟩ := h₁
  refine range_iter F N hr (cr_rg hn20) (Int.sub_zero _) (Int.natCast_nonneg _) ?_
  intro I h2 F2 N2 ltI
  refine wpAny_newObj_type (T := "list") ?_ (by size_fits)
  generalize hD : ({ s₁ with heap := h2 } : Shared).heap.objs.size = D
  have F3 := F2.push (LCg.lst [])
  have N3 := News.push F2 N2 (LCg.lst [])
  have ltD : ∀ p ∈ (I, rgI 0 (n : Int)) :: news, p.1 < D := fun p hp => hD ▸ Heap.lt_size (N2 p hp).1
  have N3' : News h₀ L (h2.push (LCg.lst [])) ((D, LCg.lst []) :: (I, rgI 0 (n : Int)) :: news) := hD ▸ N3
  refine compEnv_cell F3 N3' hcf hpc ?_
  intro C J h4 F4 N4 ltJ ltC
  refine compStart_go (g := ⟨.Name x px, iter, [ct], 0⟩) rfl rfl (fun Q' E' hq => rg_self hh (N4 _ (.tail _ (.tail _ (.tail _ (.head _))))).1 hq) ?_
  have nJ : ∀ p ∈ (C, dict0) :: (D, LCg.lst []) :: (I, rgI 0 (n : Int)) :: news, p.1 ≠ J := fun p hp => Nat.ne_of_lt (ltJ p hp)
  have nC : ∀ p ∈ (D, LCg.lst []) :: (I, rgI 0 (n : Int)) :: news, p.1 ≠ C := fun p hp => Nat.ne_of_lt (ltC p hp)
  have nD : ∀ p ∈ (I, rgI 0 (n : Int)) :: news, p.1 ≠ D := fun p hp => Nat.ne_of_lt (ltD p hp)
  have nI : ∀ p ∈ news, p.1 ≠ I := fun p hp => Nat.ne_of_lt (ltI p hp)
  have eJC : C ≠ J := nJ (C, dict0) (.head _)
  have eJD : D ≠ J := nJ (D, LCg.lst []) (.tail _ (.head _))
  have eJI : I ≠ J := nJ (I, rgI 0 (n : Int)) (.tail _ (.tail _ (.head _)))
  have eCD : D ≠ C := nC (D, LCg.lst []) (.head _)
  have eCI : I ≠ C := nC (I, rgI 0 (n : Int)) (.tail _ (.head _))
  have eDI : I ≠ D := nD (I, rgI 0 (n : Int)) (.head _)
  have mJ : ∀ p ∈ news, p.1 ≠ J := fun p hp => nJ p (.tail _ (.tail _ (.tail _ hp)))
  have mC : ∀ p ∈ news, p.1 ≠ C := fun p hp => nC p (.tail _ (.tail _ hp))
  have mD : ∀ p ∈ news, p.1 ≠ D := fun p hp => nD p (.tail _ hp)
  refine codeAny_compLoop_tests (CrI h₀ L m s₁ I J C D n T news) ?_ n
    ⟨h4, _, 0, [], cell0, none, rfl, F4, newsSub N4 (fun q hq => ?_), rfl, .nil, Nat.le_refl _, rfl, Nat.zero_le _⟩
  · rintro k s' ⟨h', tk, i, ys, oJ, vJ, rfl, F', N', hoJ, hys, hyl, rfl, hi⟩
    have hne : ∀ p ∈ (J, oJ) :: (C, dict0) :: (D, LCg.lst ys) :: news, p.1 ≠ I := List.forall_mem_cons.mpr ⟨eJI.symm, List.forall_mem_cons.mpr ⟨eCI.symm, List.forall_mem_cons.mpr ⟨eDI.symm, nI⟩⟩⟩
    refine range_next hh F' N' hne (fun hlt h3 F5 N5 => ?_) (fun hle h3 F5 N5 => ?_)
    · dsimp only
      have zJ := N5 (J, oJ) (.tail _ (.head _))
      refine wpAny_assign_Name (wpAny_storeName_cell (c := J) (show scope.kind = .function from hkind) (hxk C J) (by simp [compEnvC, List.lookup]) ⟨oJ, zJ.1, hoJ⟩ (fun h6 hc6 hs6 => ?_))
      obtain ⟨oJ', ho6, hd6⟩ := hc6
      have F6 := F5.change hs6 zJ.2.1 zJ.2.2
      have N5' : News h₀ L h3 ((J, oJ) :: (I, rgI ((i : Int) + 1) ((n : Int) - (i : Int) - 1)) :: (C, dict0) :: (D, LCg.lst ys) :: news) := newsSub N5 (by walk_at "SUBL")
      have N6 := news_same N5' (List.forall_mem_cons.mpr ⟨eJI, List.forall_mem_cons.mpr ⟨eJC, List.forall_mem_cons.mpr ⟨eJD, mJ⟩⟩⟩) hs6 ho6
      refine wpAny_tests_one ?_
      refine wpAny_mono (hturn i _ I _ C dict0 J oJ' D ys h6 _ _ (ltOfSub hlt) hd6 F6 N6 (fun q hq => ⟨mJ q hq, nI q hq, mC q hq, mD q hq⟩)) (fun ok s₄ h₄ => ?_) fun _ _ e => e
      obtain ⟨hok, h7, tk7, rfl, F7, N7⟩ := h₄
      have hstep := filter_step T i
      rw [← hok] at hstep
      cases hokb : ok with
      | true =>
        simp only [if_true]
        refine wpAny_Name (wpAny_loadName_cell (c := J) (show scope.kind = .function from hkind) (hxk C J) (by simp [compEnvC, List.lookup]) ⟨oJ', (N7 _ (.head _)).1, hd6⟩ ?_) hxd
        refine appendL (n := ys.length) (vs := ys) F7 N7 (.tail eJD.symm (.tail eDI (.tail eCD.symm (.head mD)))) (cr_sz hyl (ltOfSub hlt) hn20) ?_
        intro h8 F8 N8
        refine ⟨n - (i + 1), nsubS (ltOfSub hlt), h8, tk7, i + 1, ys ++ [Value.int (i : Int) tk], oJ', _, rfl, F8, newsSub N8 (fun q hq => ?_), hd6, ?_, cr_le hyl, rfl, ltOfSub hlt⟩
        · rw [cr_i, isubS] at hq
          rw [lst_snoc] at hq
          revert hq; revert q; walk_at "SUBL"
        · rw [hstep, hokb]
          simp only [if_true]
          exact IntsAre.append hys (.cons _ _ .nil)
      | false =>
        simp only [Bool.false_eq_true, if_false]
        refine ⟨n - (i + 1), nsubS (ltOfSub hlt), h7, tk7, i + 1, ys, oJ', _, rfl, F7, newsSub N7 (fun q hq => ?_), hd6, ?_, Nat.le_succ_of_le hyl, rfl, ltOfSub hlt⟩
        · rw [cr_i, isubS] at hq
          revert hq; revert q; walk_at "SUBL"
        · rw [hstep, hokb]
          simpa using hys
    · have hie : i = n := eqOfSub hle hi
      subst hie
      dsimp only
      refine ⟨_, ns_dict0 (N5 _ (.tail _ (.head _))).1, fun h' hs' => ?_⟩
      have F8 := fr_same F5 N5 (.tail _ (.head _)) hs'
      refine hfin D ys h' _ hys F8 (fun q hq => ?_) (fun q hq => ltD q (.tail _ hq))
      have hq5 := N5 q (.tail _ (.tail _ hq))
      refine ⟨hs'.extBut _ _ ?_ hq5.1, hq5.2⟩
      rcases List.mem_cons.mp hq with rfl | hq
      · exact eCD
      · exact mC q hq
  · revert hq; revert q; walk_at "SUBL"
/-- what a turn with a test leaves -/
theorem comp_restT {ct elt : Expr} {x : Str} {scope : Scope} {cl : List (Str × Addr)} {S : List (Addr × Obj) → Prop} {P : Nat → Value → Prop} {Fin : List Value → List (Addr × Obj) → Prop} {n : Nat} {news : List (Addr × Obj)} (hS : S news) (G : Nat → List Value → Prop) (h0 : G 0 [])
    (step : ∀ i ys v I oI C oC D m₂ h tk (E' : Value → Shared → Prop), i < n → G i ys → P i v → LCg.NsObj oC m₂ → m₂ x = some v → Fr h₀ L h m → News h₀ L h ((I, oI) :: (C, oC) :: (D, LCg.lst ys) :: news) → LCg.Off3 I C D news →
      wpAny (model prog w) A (isTrue ct (compEnvC scope cl C env) (eval ct (compEnvC scope cl C env))) (fun ok s' => if ok = true then
        wpAny (model prog w) A (eval elt (compEnvC scope cl C env)) (TurnEnd h₀ L m s ((I, oI) :: (C, oC) :: (D, LCg.lst ys) :: news) (fun y => G (i + 1) (ys ++ [y]))) E' s'
        else TurnEnd h₀ L m s ((I, oI) :: (C, oC) :: (D, LCg.lst ys) :: news) (fun _ => G (i + 1) ys) .none s') E' { s with heap := h, toks := tk })
    (fin : ∀ ys, G n ys → Fin ys news) : LCt.CompRestT prog w A h₀ L m env ct elt x scope cl s S P Fin n 0 [] news := by
  have key : ∀ k i ys, i + k = n → G i ys → LCt.CompRestT prog w A h₀ L m env ct elt x scope cl s S P Fin k i ys news := by
    intro k
    induction k with
    | zero =>
      intro i ys hi hg
      obtain rfl : i = n := by omega
      exact LCt.CompRestT.zero (fin ys hg)
    | succ k ih =>
      intro i ys hi hg
      refine LCt.CompRestT.succ fun v I oI C oC D m₂ h tk E' hv hC hx F N off ne => ?_
      refine wpAny_mono (step i ys v I oI C oC D m₂ h tk E' (by omega) hg hv hC hx F N off) (fun ok s₂ hs => ?_) fun _ _ e => e
      cases ok with
      | true =>
        simp only [if_true] at hs ⊢
        refine wpAny_mono hs (fun y s₃ hs3 => ?_) fun _ _ e => e
        obtain ⟨h', tk', rfl, F', N', hg'⟩ := hs3
        exact LCg.CompEnd.intro (s₁ := { s with heap := h, toks := tk }) F' N' news (fun p hp => hp) off hS (ih (i + 1) (ys ++ [y]) (by omega) hg')
      | false =>
        simp only [Bool.false_eq_true, if_false] at hs ⊢
        obtain ⟨h', tk', rfl, F', N', hg'⟩ := hs
        exact LCg.CompEnd.intro (s₁ := { s with heap := h, toks := tk }) F' N' news (fun p hp => hp) off hS (ih (i + 1) ys (by omega) hg')
  exact key n 0 [] (by omega) h0
theorem storeC {scope : Scope} {cl : List (Str × Addr)} {C : Addr} {oC : Obj} {m₂ : Str → Option Value} {x : Str} {v : Value} {Q : Unit → Shared → Prop} (F : Fr h₀ L s.heap m) (N : News h₀ L s.heap ((C, oC) :: news)) (hC : LCg.NsObj oC m₂) (hne : ∀ p ∈ news, p.1 ≠ C)
    (hkind : scope.kind = .function) (hx : (compEnvC scope cl C env).kindOf x = some .local)
    (h : ∀ h' oC', Fr h₀ L h' m → News h₀ L h' ((C, oC') :: news) → LCg.NsObj oC' (fun z => if z = x then some v else m₂ z) → Q () { s with heap := h', toks := s.toks + 1 }) : wpAny (model prog w) A (storeName (compEnvC scope cl C env) x v) Q E s := by
  refine wpAny_storeName_local hx (hC.ns (N _ (.head _)).1) (fun h' hn' hs' => ?_) (by simp [compEnvC, relabel, hkind])
  obtain ⟨oC', e, hC'⟩ := LCg.ns_obj hn'
  exact h h' oC' (fr_same F N (.head _) hs') (news_same N hne hs' e) hC'
theorem nsObj0 : LCg.NsObj dict0 (fun name => nsFind #[] name) := ⟨#[], _, rfl, by intro i hi; simp at hi, fun _ => rfl⟩
theorem compTurn_20 (elt iter0 iter1 : Expr) (x y : Str) (px py : Pos) (scope : Scope) (pos : Pos) (it acc : Value) (env : Env) :
    compTurn (.ListComp elt [⟨.Name x px, iter0, [], 0⟩, ⟨.Name y py, iter1, [], 0⟩] scope pos) 0 it acc env = (standAt iter0.pos >>= fun _ => pyNext it >>= fun r => match r with
      | none => pure (.done .next)
      | some v => letOwnedTupleGo (.Name x px) it v >>= fun _ => assign (.Name x px) env v >>= fun _ => eval iter1 env >>= fun xv => standAt iter1.pos >>= fun _ => foldedSetIterable iter1 env xv >>= fun xv => holding [xv] (pyIter xv) >>= fun it1 =>
          runOwn (.compStart (.ListComp elt [⟨.Name x px, iter0, [], 0⟩, ⟨.Name y py, iter1, [], 0⟩] scope pos) 1 it1 acc env) env >>= fun _ =>
          again (.compLoop (.ListComp elt [⟨.Name x px, iter0, [], 0⟩, ⟨.Name y py, iter1, [], 0⟩] scope pos) 0 it acc env)) := by rfl
theorem compTurn_21 (elt iter0 iter1 : Expr) (x y : Str) (px py : Pos) (scope : Scope) (pos : Pos) (it acc : Value) (env : Env) :
    compTurn (.ListComp elt [⟨.Name x px, iter0, [], 0⟩, ⟨.Name y py, iter1, [], 0⟩] scope pos) 1 it acc env = (standAt iter1.pos >>= fun _ => pyNext it >>= fun r => match r with
      | none => pure (.done .next)
      | some v => letOwnedTupleGo (.Name y py) it v >>= fun _ => assign (.Name y py) env v >>= fun _ =>
          (eval elt env >>= fun xv => call (.builtin "list.append") [acc, xv] >>= fun _ => pure ()) >>= fun _ =>
          again (.compLoop (.ListComp elt [⟨.Name x px, iter0, [], 0⟩, ⟨.Name y py, iter1, [], 0⟩] scope pos) 1 it acc env)) := by rfl
inductive TwoH (prog : Program) (w : World) (A : Around) (h₀ : Heap) (L : Addr) (m : Str → Option Value) (env : Env) (x y tg : Str) (elt iter1 : Expr) (scope : Scope) (cl : List (Str × Addr)) (G : Nat → List Value → Prop) (Q : Flow → Shared → Prop) (xv : Value) (s₁ : Shared) : Prop
  | mk (a0 : Addr) (v0 : Value) (k0 : Nat) (a1 : Addr) (its1 : Array Value) (k1 : Nat) (news : List (Addr × Obj)) (e : xv = .ref a0) (F : Fr h₀ L s₁.heap m) (N : News h₀ L s₁.heap news) (hm0 : (a0, W.listOf #[v0] k0) ∈ news) (hm1 : (a1, W.listOf its1 k1) ∈ news) (hsz : its1.size < 2 ^ 20)
    (hit1 : ∀ I0 o0 C oC m₂ D h tk (Q' E' : Value → Shared → Prop), LCg.NsObj oC m₂ → Fr h₀ L h m → News h₀ L h ((C, oC) :: (I0, o0) :: (D, LCg.lst []) :: news) → Q' (.ref a1) { s₁ with heap := h, toks := tk } → wpAny (model prog w) A (eval iter1 (compEnvC scope cl C env)) Q' E' { s₁ with heap := h, toks := tk })
    (hturn : ∀ (i : Nat) v I1 o1 I0 o0 C oC D m₂ ys h tk (E' : Value → Shared → Prop), i < its1.size → G i ys → its1[i]? = some v → LCg.NsObj oC m₂ → m₂ x = some v0 → m₂ y = some v → Fr h₀ L h m → News h₀ L h ((C, oC) :: (I1, o1) :: (I0, o0) :: (D, LCg.lst ys) :: news) →
        wpAny (model prog w) A (eval elt (compEnvC scope cl C env)) (TurnEnd h₀ L m s₁ ((C, oC) :: (I1, o1) :: (I0, o0) :: (D, LCg.lst ys) :: news) (fun yv => G (i + 1) (ys ++ [yv]))) E' { s₁ with heap := h, toks := tk })
    (hfin : ∀ D ys h tk, G its1.size ys → Fr h₀ L h (fun z => if z = tg then some (.ref D) else m z) → News h₀ L h ((D, LCg.lst ys) :: news) → (∀ q ∈ news, q.1 < D) → Q .next { s₁ with heap := h, toks := tk })
inductive TwoA (h₀ : Heap) (L : Addr) (m : Str → Option Value) (s₁ : Shared) (I0 C D a0 : Addr) (news : List (Addr × Obj)) (P : List Value → Prop) (k : Nat) (s' : Shared) : Prop
  | mk (h' : Heap) (tk i : Nat) (o0 oC : Obj) (m₂ : Str → Option Value) (ys : List Value) (e : s' = { s₁ with heap := h', toks := tk }) (F : Fr h₀ L h' m) (N : News h₀ L h' ((I0, o0) :: (C, oC) :: (D, LCg.lst ys) :: news)) (ho : LiO a0 i o0) (hC : LCg.NsObj oC m₂) (ek : k = 1 - i) (hi : i ≤ 1) (h0 : i = 0 → ys = []) (h1 : i = 1 → P ys)
inductive TwoB (h₀ : Heap) (L : Addr) (m : Str → Option Value) (s₁ : Shared) (I1 I0 C D a1 : Addr) (o0' : Obj) (news : List (Addr × Obj)) (x : Str) (v : Value) (n : Nat) (G : Nat → List Value → Prop) (k : Nat) (s' : Shared) : Prop
  | mk (h' : Heap) (tk i : Nat) (o1 oC : Obj) (m₂ : Str → Option Value) (ys : List Value) (e : s' = { s₁ with heap := h', toks := tk }) (F : Fr h₀ L h' m) (N : News h₀ L h' ((I1, o1) :: (C, oC) :: (I0, o0') :: (D, LCg.lst ys) :: news)) (ho : LiO a1 i o1) (hC : LCg.NsObj oC m₂) (hmx : m₂ x = some v) (ek : k = n - i) (hi : i ≤ n) (hyl : ys.length = i) (hG : G i ys)
theorem get1 {i : Nat} {v0 v : Value} (h : #[v0][i]? = some v) : i = 0 ∧ v = v0 := by
  rcases Nat.lt_or_ge i 1 with h' | h'
  · obtain rfl : i = 0 := by omega
    exact ⟨rfl, by simpa using h.symm⟩
  · rw [Array.getElem?_eq_none (by simpa using h')] at h; cases h
theorem end1 {i : Nat} {v0 : Value} (h : #[v0][i]? = none) (hi : i ≤ 1) : i = 1 := by
  rcases Nat.lt_or_ge i 1 with h' | h'
  · obtain rfl : i = 0 := by omega
    simp at h
  · omega
theorem getA {i : Nat} {a : Array Value} {v : Value} (h : a[i]? = some v) : i < a.size := by
  rcases Nat.lt_or_ge i a.size with h' | h'
  · exact h'
  · rw [Array.getElem?_eq_none h'] at h; cases h
theorem endA {i : Nat} {a : Array Value} (h : a[i]? = none) (hi : i ≤ a.size) : i = a.size := by
  rcases Nat.lt_or_ge i a.size with h' | h'
  · rw [Array.getElem?_eq_getElem h'] at h; cases h
  · omega
/-- a list comprehension of two clauses without tests, the first over a list of one item, the second over a list -/
theorem Assign_two {x y tg : Str} {ptg spos : Pos} {px py : Pos} {elt iter0 iter1 : Expr} {scope : Scope} {cl : List (Str × Addr)} {pos : Pos} {Q : Flow → Shared → Prop} (F₀ : Fr h₀ L s.heap m) (hLe : env.locals = L)
    (hsw : swapsWith (.ListComp elt [⟨.Name x px, iter0, [], 0⟩, ⟨.Name y py, iter1, [], 0⟩] scope pos) (some (.Name tg ptg)) spos.line env = pure true) (htg : env.kindOf tg = some .local) (hp : (env.scope.kind == .class || (env.scope.kind == .module && env.locals != env.globals)) = false) (G : Nat → List Value → Prop) (h0 : G 0 []) (hh : A.handled = none)
    (hclos : closureFor scope env = pure cl) (hkind : scope.kind = .function) (hnames : ∀ y ∈ scope.names, y.2 = .local → scope.names.lookup y.1 = some .local)
    (hxk : ∀ C, (compEnvC scope cl C env).kindOf x = some .local) (hyk : ∀ C, (compEnvC scope cl C env).kindOf y = some .local) (hxy : x ≠ y) (hcf : ∀ k, cellsFrom k scope.names cl = cl) (hpc : ∀ h, pushCells h scope.names = h)
    (h : wpAny (model prog w) A (eval iter0 env) (TwoH prog w A h₀ L m env x y tg elt iter1 scope cl G Q) E s)
    (hs : ∀ x, foldedSetIterable iter0 env x = pure x := by intro _; rfl) (hs1 : ∀ x C, foldedSetIterable iter1 (compEnvC scope cl C env) x = pure x := by intro _ _; rfl) :
    wpAny (model prog w) A (exec (.Assign [.Name tg ptg] (.ListComp elt [⟨.Name x px, iter0, [], 0⟩, ⟨.Name y py, iter1, [], 0⟩] scope pos) spos) env) Q E s := by
  subst hLe
  rw [exec_Assign_Name_used _ _ _ _ hsw]
  refine wpAny_bind (wpAny_standAt (wpAny_bind ?_))
  show wpAny _ A (do let _ ← comprehension (.ListComp elt [⟨.Name x px, iter0, [], 0⟩, ⟨.Name y py, iter1, [], 0⟩] scope pos) scope env _ (newList []) false (eval iter0 env) (some (assign (.Name tg ptg) env))) _ _ s
  refine wpAny_bind (wpAny_mono (wpAny_comprehension_free (use := some (assign (.Name tg ptg) env)) (Q := fun _ s' => Q .next s') rfl hs hclos hkind hnames (wpAny_mono h (fun xv s₁ h₁ => ?_) fun _ _ e => e)) (fun _ s' hq => wpAny_pure (wpAny_pure hq)) fun _ _ e => e)
  obtain ⟨a0, v0, k0, a1, its1, k1, news, rfl, F, N, hm0, hm1, hsz, hit1, hturn, hfin⟩ := h₁
  refine list_iter F N hm0 ?_
  intro I0 h2 F2 N2 ltI
  refine wpAny_newObj_type (T := "list") ?_ (by size_fits)
  generalize hD : ({ s₁ with heap := h2 } : Shared).heap.objs.size = D
  have F3 := F2.push (LCg.lst [])
  have N3 := News.push F2 N2 (LCg.lst [])
  have ltD : ∀ p ∈ (I0, liI a0 0) :: news, p.1 < D := fun p hp => hD ▸ Heap.lt_size (N2 p hp).1
  have N3' : News h₀ env.locals (h2.push (LCg.lst [])) ((D, LCg.lst []) :: (I0, liI a0 0) :: news) := hD ▸ N3
  refine compEnv_plain F3 N3' hcf hpc ?_
  intro C h4 F4 N4 ltC
  refine compStart_go (g := ⟨.Name x px, iter0, [], 0⟩) rfl rfl (fun Q' E' hq => li_self (N4 _ (.tail _ (.tail _ (.head _)))).1 (LiO.start a0) hq) ?_
  have nC : ∀ p ∈ (D, LCg.lst []) :: (I0, liI a0 0) :: news, p.1 ≠ C := fun p hp => Nat.ne_of_lt (ltC p hp)
  have nD : ∀ p ∈ (I0, liI a0 0) :: news, p.1 ≠ D := fun p hp => Nat.ne_of_lt (ltD p hp)
  have nI : ∀ p ∈ news, p.1 ≠ I0 := fun p hp => Nat.ne_of_lt (ltI p hp)
  have eCD : D ≠ C := nC (D, LCg.lst []) (.head _)
  have eCI : I0 ≠ C := nC (I0, liI a0 0) (.tail _ (.head _))
  have eDI : I0 ≠ D := nD (I0, liI a0 0) (.head _)
  have mC : ∀ p ∈ news, p.1 ≠ C := fun p hp => nC p (.tail _ (.tail _ hp))
  have mD : ∀ p ∈ news, p.1 ≠ D := fun p hp => nD p (.tail _ hp)
  -- the outer loop: its one turn, then its end
  refine codeAny_loop rfl (TwoA h₀ env.locals m s₁ I0 C D a0 news (G its1.size)) ?_ 1
    ⟨h4, _, 0, _, _, _, [], rfl, F4, newsSub N4 (by walk_at "SUBL"), LiO.start a0, nsObj0, rfl, Nat.zero_le _, fun _ => rfl, fun h => nomatch h⟩
  rintro k s' ⟨h', tk, i, o0, oC, m₂, ys, rfl, F', N', ho0, hC, rfl, hi, hy0, hy1⟩
  show wpAny _ A ((compTurn _ 0 _ _ _).onRaise (fun x => do noteFrame x _; theTreesLotGoes x)) _ _ _
  refine wpAny_noted ?_
  rw [compTurn_20]
  refine wpAny_bind (wpAny_standAt (wpAny_bind ?_))
  have hne0 : ∀ p ∈ (C, oC) :: (D, LCg.lst ys) :: news, p.1 ≠ I0 := List.forall_mem_cons.mpr ⟨eCI.symm, List.forall_mem_cons.mpr ⟨eDI.symm, nI⟩⟩
  refine list_next hh F' N' ho0 hne0 (.tail _ (.tail _ hm0)) (fun v hv o0' h5 ho0' F5 N5 => ?_) (fun hn h5 F5 N5 => ?_)
  · obtain ⟨rfl, rfl⟩ := get1 hv
    have hys := hy0 rfl
    subst hys
    refine wpAny_bind (wpAny_pure ?_)
    refine wpAny_bind (wpAny_assign_Name ?_)
    have N5' : News h₀ env.locals h5 ((C, oC) :: (I0, o0') :: (D, LCg.lst []) :: news) := newsSub N5 (by walk_at "SUBL")
    refine storeC (cl := cl) F5 N5' hC (List.forall_mem_cons.mpr ⟨eCI, List.forall_mem_cons.mpr ⟨eCD, mC⟩⟩) hkind (hxk C) ?_
    intro h6 oC6 F6 N6 hC6
    refine wpAny_bind ?_
    refine hit1 I0 o0' C oC6 _ D h6 _ _ _ hC6 F6 N6 ?_
    refine wpAny_bind (wpAny_standAt (wpAny_bind (wpAny_of_eq (hs1 _ C) (wpAny_bind (wpAny_holding ?_)))))
    refine list_iter F6 N6 (.tail _ (.tail _ (.tail _ hm1))) ?_
    intro I1 h7 F7 N7 ltI1
    refine wpAny_bind (wpAny_runOwn ?_)
    refine compStart_go (g := ⟨.Name y py, iter1, [], 0⟩) rfl rfl (fun Q' E' hq => li_self (N7 _ (.head _)).1 (LiO.start a1) hq) ?_
    have n1 : ∀ p ∈ (C, oC6) :: (I0, o0') :: (D, LCg.lst []) :: news, p.1 ≠ I1 := fun p hp => Nat.ne_of_lt (ltI1 p hp)
    have e1C : C ≠ I1 := n1 (C, oC6) (.head _)
    have e1I : I0 ≠ I1 := n1 (I0, o0') (.tail _ (.head _))
    have e1D : D ≠ I1 := n1 (D, LCg.lst []) (.tail _ (.tail _ (.head _)))
    have m1 : ∀ p ∈ news, p.1 ≠ I1 := fun p hp => n1 p (.tail _ (.tail _ (.tail _ hp)))
    refine codeAny_loop rfl (TwoB h₀ env.locals m s₁ I1 I0 C D a1 o0' news x v its1.size G) ?_ its1.size
      ⟨h7, _, 0, _, _, _, [], rfl, F7, N7, LiO.start a1, hC6, if_pos rfl, rfl, Nat.zero_le _, rfl, h0⟩
    rintro k s' ⟨h', tk, i, o1, oC, m₂, ys, rfl, F', N', ho1, hC, hmx, rfl, hi, hyl, hG⟩
    show wpAny _ A ((compTurn _ 1 _ _ _).onRaise (fun x => do noteFrame x _; theTreesLotGoes x)) _ _ _
    refine wpAny_noted ?_
    rw [compTurn_21]
    refine wpAny_bind (wpAny_standAt (wpAny_bind ?_))
    have hne1 : ∀ p ∈ (C, oC) :: (I0, o0') :: (D, LCg.lst ys) :: news, p.1 ≠ I1 := List.forall_mem_cons.mpr ⟨e1C, List.forall_mem_cons.mpr ⟨e1I, List.forall_mem_cons.mpr ⟨e1D, m1⟩⟩⟩
    refine list_next hh F' N' ho1 hne1 (.tail _ (.tail _ (.tail _ hm1))) (fun vy hvy o1' h8 ho1' F8 N8 => ?_) (fun hn h8 F8 N8 => ?_)
    · have hlt := getA hvy
      refine wpAny_bind (wpAny_pure ?_)
      refine wpAny_bind (wpAny_assign_Name ?_)
      have N8' : News h₀ env.locals h8 ((C, oC) :: (I1, o1') :: (I0, o0') :: (D, LCg.lst ys) :: news) := newsSub N8 (by walk_at "SUBL")
      refine storeC (cl := cl) F8 N8' hC (List.forall_mem_cons.mpr ⟨e1C.symm, List.forall_mem_cons.mpr ⟨eCI, List.forall_mem_cons.mpr ⟨eCD, mC⟩⟩⟩) hkind (hyk C) ?_
      intro h9 oC9 F9 N9 hC9
      refine wpAny_bind (wpAny_bind ?_)
      refine wpAny_mono (hturn i vy I1 o1' I0 o0' C oC9 D _ ys h9 _ _ hlt hG hvy hC9 (by rw [if_neg hxy]; exact hmx) (if_pos rfl) F9 N9) (fun yv s' hq => ?_) fun _ _ e => e
      obtain ⟨h10, tk10, rfl, F10, N10, hG'⟩ := hq
      refine wpAny_bind ?_
      refine appendL (n := ys.length) (vs := ys) F10 N10 (.tail eCD.symm (.tail e1D.symm (.tail eDI (.head mD)))) (cr_sz (Nat.le_of_eq hyl) hlt hsz) ?_
      intro h11 F11 N11
      refine wpAny_pure (wpAny_pure ⟨rfl, its1.size - (i + 1), nsubS hlt, h11, tk10, i + 1, o1', oC9, _, ys ++ [yv], rfl, F11, newsSub N11 (fun q hq => ?_), ho1', hC9, by rw [if_neg hxy]; exact hmx, rfl, hlt, by rw [List.length_append, hyl]; rfl, hG'⟩)
      rw [lst_snoc] at hq
      revert hq; revert q; walk_at "SUBL"
    · have hie := endA hn hi
      refine wpAny_pure ?_
      refine wpAny_pure ⟨rfl, 0, Nat.zero_lt_one, h8, tk, 1, o0', oC, _, ys, rfl, F8, newsSub N8 (by walk_at "SUBL"), ho0', hC, rfl, Nat.le_refl _, (fun h => nomatch h), fun _ => hie ▸ hG⟩
  · have hi1 := end1 hn hi
    refine wpAny_pure ?_
    have NC := N5 (C, oC) (.head _)
    show wpAny _ A (assign (.Name tg ptg) env (.ref D)) _ _ _
    refine wpAny_assign_Name (wpAny_storeName_local htg F5.ns (fun hb hnb hsb => ?_) hp)
    have hL₀ : h₀.get? env.locals = none := Heap.get?_none_of_le F5.above
    have Fb : Fr h₀ env.locals hb (fun z => if z = tg then some (.ref D) else m z) := ⟨hnb, fun b o e => hsb.extBut b o (fun q => by rw [q, hL₀] at e; cases e) (F5.keep b o e), F5.above⟩
    have Nb : News h₀ env.locals hb ((C, oC) :: (D, LCg.lst ys) :: news) := fun q hq => ⟨hsb.extBut _ _ (N5 q hq).2.1 (N5 q hq).1, (N5 q hq).2⟩
    refine ⟨_, hC.ns (Nb _ (.head _)).1, fun h' hs' => ?_⟩
    refine hfin D ys h' _ (hy1 hi1) (fr_same Fb Nb (.head _) hs') (fun q hq => ?_) (fun q hq => ltD q (.tail _ hq))
    have hq5 := Nb q (.tail _ hq)
    refine ⟨hs'.extBut _ _ ?_ hq5.1, hq5.2⟩
    rcases List.mem_cons.mp hq with rfl | hq
    · exact eCD
    · exact mC q hq
end
end Mine
end

-- part Rd
namespace Mine
def turnData (Z : Int) (ws : List Nat) (p0 F0 : Int) (t : Nat) : PyData :=
  .list [.list ((ws.map (· + t)).map fun q => .str (dots (q + 1))), .int Z, .list [.int ((p0 + t) % Z)], .int F0, .bool (decide ((p0 + t) % Z = Z - 1)), .bool (!decide ((p0 + t) % Z = Z - 1))]
def toldData (Z : Int) (ws : List Nat) (p0 F0 : Int) (n : Nat) : PyData := .list ((List.range' 0 n).map fun k => turnData Z ws p0 F0 (k + 1))
theorem reads_rows {h : Heap} {vs : List Value} {qs : List Nat} (x : RowsAre vs qs) : ReadsAll h vs (qs.map fun q => .str (dots (q + 1))) [] := by
  induction x with
  | nil => exact .nil
  | cons q t _ ih => exact ReadsAll.cons (as := []) (bs := []) (.str _ t) ih
theorem reads_rec {Z : Int} {ws : List Nat} {p0 F0 : Int} {t : Nat} {r : TRec} {g h : Heap} {L : Nat} {l : List (Addr × Obj)} (N : News g L h l) (hr : ∀ q ∈ r.led Z, q ∈ l) (ok : r.Ok Z ws p0 F0 t) : ∃ as, Reads h (.ref r.RT) (turnData Z ws p0 F0 t) as := by
  obtain ⟨h1, h2, h3⟩ := ok
  have n1 := N _ (hr _ (.head _))
  have n2 := N _ (hr _ (.tail _ (.head _)))
  have n3 := N _ (hr _ (.tail _ (.tail _ (.head _))))
  unfold turnData
  rw [← h2, ← h3]
  exact ⟨_, reads_list_at n1.1 rfl rfl <| .cons (reads_list_at n2.1 rfl rfl (reads_rows h1)) (.cons (.int _ _) (.cons (reads_list_at n3.1 rfl rfl (.cons (.int _ _) .nil)) (.cons (.int _ _) (.cons (.bool _) (.cons (.bool _) .nil)))))⟩
theorem reads_recs {Z : Int} {ws : List Nat} {p0 F0 : Int} {g h : Heap} {L : Nat} {l : List (Addr × Obj)} (N : News g L h l) : ∀ (rs : List TRec) (k0 : Nat), (∀ q ∈ recsLed Z rs, q ∈ l) → (∀ (k : Nat) (r : TRec), rs[k]? = some r → r.Ok Z ws p0 F0 (k0 + k + 1)) →
    ∃ as, ReadsAll h (recsVal rs) ((List.range' k0 rs.length).map fun k => turnData Z ws p0 F0 (k + 1)) as
  | [], _, _, _ => ⟨[], .nil⟩
  | r :: rs, k0, hl, hok => by
    obtain ⟨as, h1⟩ := reads_rec N (fun q hq => hl q (List.mem_flatMap.mpr ⟨r, .head _, hq⟩)) (hok 0 r rfl)
    obtain ⟨bs, h2⟩ := reads_recs N rs (k0 + 1) (fun q hq => hl q (by obtain ⟨r', m, hq⟩ := List.mem_flatMap.mp hq; exact List.mem_flatMap.mpr ⟨r', .tail _ m, hq⟩)) (fun k r' hk => by
      have := hok (k + 1) r' (by simpa using hk)
      rwa [show k0 + 1 + k + 1 = k0 + (k + 1) + 1 by omega])
    exact ⟨_, .cons h1 h2⟩
theorem reads_told {Z : Int} {ws : List Nat} {p0 F0 : Int} {g h : Heap} {L TL kT : Nat} {l : List (Addr × Obj)} {rs : List TRec} (N : News g L h l) (hm : (TL, W.listOf (recsVal rs).toArray kT) ∈ l) (hl : ∀ q ∈ recsLed Z rs, q ∈ l) (hok : RecsOk Z ws p0 F0 rs) :
    ∃ as, Reads h (.ref TL) (toldData Z ws p0 F0 rs.length) as := by
  obtain ⟨as, h1⟩ := reads_recs N rs 0 hl (fun k r hk => by have := hok k r hk; simpa using this)
  exact ⟨_, reads_list_at (N _ hm).1 rfl rfl h1⟩
theorem dots_ok (n : Nat) : PyData.strOk (dots n) = true := by
  unfold PyData.strOk
  rw [Array.all_eq_true]
  intro i hi
  simp [dots]
theorem rows_lay (qs : List Nat) : PyData.canLayAll0 (qs.map fun q => PyData.str (dots (q + 1))) = true ∧ PyData.depthAll (qs.map fun q => PyData.str (dots (q + 1))) = 0 := by
  induction qs with
  | nil => exact ⟨rfl, rfl⟩
  | cons q qs ih => simp [PyData.canLayAll0, PyData.canLay0, PyData.depthAll, PyData.depth, dots_ok, ih.1, ih.2]
theorem turn_lay (Z : Int) (ws : List Nat) (p0 F0 : Int) (t : Nat) : (turnData Z ws p0 F0 t).canLay0 = true ∧ (turnData Z ws p0 F0 t).depth ≤ 2 := by
  have h := rows_lay (ws.map (· + t))
  unfold turnData
  constructor
  · simp only [PyData.canLay0, PyData.canLayAll0, h.1, Bool.and_true, Bool.true_and]
  · simp only [PyData.depth, PyData.depthAll, h.2]; omega
theorem turns_lay (Z : Int) (ws : List Nat) (p0 F0 : Int) (l : List Nat) : PyData.canLayAll0 (l.map fun k => turnData Z ws p0 F0 (k + 1)) = true ∧ PyData.depthAll (l.map fun k => turnData Z ws p0 F0 (k + 1)) ≤ 2 := by
  induction l with
  | nil => exact ⟨rfl, by simp [PyData.depthAll]⟩
  | cons k l ih =>
    have := turn_lay Z ws p0 F0 (k + 1)
    constructor
    · simp only [List.map_cons, PyData.canLayAll0, this.1, ih.1, Bool.and_true]
    · simp only [List.map_cons, PyData.depthAll]
      omega
theorem told_lay (Z : Int) (ws : List Nat) (p0 F0 : Int) (n : Nat) : (toldData Z ws p0 F0 n).canLay0 = true ∧ SeqAt.shaped (toldData Z ws p0 F0 n) = true := by
  have h := turns_lay Z ws p0 F0 (List.range' 0 n)
  have h1 : (toldData Z ws p0 F0 n).canLay0 = true := by unfold toldData; simp only [PyData.canLay0]; exact h.1
  refine ⟨h1, ?_⟩
  unfold SeqAt.shaped
  rw [h1, Bool.true_and, decide_eq_true_eq]
  unfold toldData
  simp only [PyData.depth]
  omega
/-- the told's lists are none of a list of two and more ints -/
theorem recs_ne_ints {Z : Int} {ws : List Nat} {p0 F0 : Int} {rs : List TRec} (hok : RecsOk Z ws p0 F0 rs) {ys : List Value} {ns : List Int} (hys : IntsAre ys ns) (h2 : 2 ≤ ns.length) (hw : ws ≠ []) (k : Nat) : ∀ q ∈ recsLed Z rs, q.2 ≠ W.listOf ys.toArray k := by
  intro q hq
  obtain ⟨r, hr, hq⟩ := List.mem_flatMap.mp hq
  obtain ⟨j, hj, rfl⟩ := List.mem_iff_getElem.mp hr
  have ok := hok j rs[j] (List.getElem?_eq_getElem hj)
  obtain ⟨h1, _, _⟩ := ok
  cases hys with
  | nil => simp at h2
  | cons i t hys' =>
    simp only [TRec.led, List.mem_cons, List.not_mem_nil, or_false] at hq
    rcases hq with rfl | rfl | rfl
    · intro e; simp [W.listOf] at e
    · intro e
      simp only [W.listOf, Obj.mk.injEq, Data.seq.injEq, true_and, and_true] at e
      cases h1' : (rs[j]).vsR with
      | nil =>
        rw [h1'] at h1
        cases ws with
        | nil => exact hw rfl
        | cons a b => cases h1
      | cons v vs =>
        rw [h1'] at h1 e
        cases ws with
        | nil => exact hw rfl
        | cons a b =>
          simp only [List.map_cons] at h1
          cases h1
          simp at e
    · intro e
      have hl := hys'.length
      have h3 := congrArg (fun (o : Obj) => match o.data with | .seq xs _ => xs.size | _ => 0) e
      simp at h3 h2
      rw [h3] at hl
      simp at hl
      omega
theorem told_ne_ints {rs : List TRec} {ys : List Value} {ns : List Int} (hys : IntsAre ys ns) (h1 : 1 ≤ ns.length) (k k' : Nat) : W.listOf (recsVal rs).toArray k' ≠ W.listOf ys.toArray k := by
  intro e
  cases hys with
  | nil => simp at h1
  | cons i t hys' =>
    cases rs with
    | nil => simp [W.listOf, recsVal] at e
    | cons r rs => simp [W.listOf, recsVal] at e
end Mine

-- part Tn
namespace Mine
theorem lex_call (w : World) (text : Str) (tt : Tok) (TB : List (Addr × Obj)) (hT : TabSt TB) (hlen : text.length < 1000000) :
    Call w 6 300 (.ref 131) [.str text tt] TB (LexP w text TB) := by
  rcases hT with rfl | ⟨RC, oc, h1, h2, rfl⟩
  · exact lex1_call w text tt hlen
  · exact lex2_call w text tt RC oc h1 h2 hlen
theorem At.adv {text : Str} {r : List Nat} : ∀ (l : List Nat) {pl : Int}, At text pl (l ++ r) → At text (pl + (l.length : Int)) r
  | [], pl, h => by simpa using h
  | c :: l, pl, h => by
    have := At.adv l (At.cons h).2
    rw [show pl + 1 + (l.length : Int) = pl + ((c :: l).length : Int) by simp; omega] at this
    exact this
/-- the rows as the lexer meets them -/
def rowsD (ds : List Nat) : List Nat := rowsT (ds.map fun d => (d + 1, [13, 10]))
def hdD : List Nat → Nat
  | [] => 0
  | d :: _ => d + 1
def tlD : List Nat → List Nat
  | [] => []
  | _ :: r => 10 :: rowsD r
/-- a row read -/
inductive RdP (w : World) (a : LexA) (line : Int) (kb : Nat) (ds : List Nat) (r : Value) (post : List (Addr × Obj)) : Prop
  | mk (t tl' tp' : Nat) (pl' : Int) (er : r = .str (dots (hdD ds)) t) (hat : At a.text pl' (tlD ds)) (ep : post = lexM w a line tl' [] kb pl' tp')
theorem rd_call (w : World) (a : LexA) (ok : a.Ok) (hread : ReadOk w a) (line : Int) (tl : Tok) (kb : Nat) (pl : Int) (tp : Tok) (j : Nat) (ds : List Nat) (hd9 : ∀ d ∈ ds, d < 900) (hat : At a.text pl (List.replicate j 10 ++ rowsD ds)) :
    Call w 6 300 (.ref 93) [.ref a.LX] (lexM w a line tl [] kb pl tp) (RdP w a (line + j) kb ds) := by
  cases ds with
  | nil =>
    simp only [rowsD, List.map_nil, rowsT, List.append_nil] at hat
    refine (get1_call w a ok hread line tl kb pl tp j hat).mono ?_
    rintro v post ⟨t, tl', tp', rfl, rfl⟩
    refine ⟨t, tl', tp', pl + j, rfl, ?_, rfl⟩
    have := At.adv (r := []) (List.replicate j 10) (by simpa using hat)
    simpa [tlD] using this
  | cons d ds =>
    have hat' : At a.text pl (List.replicate j 10 ++ (List.replicate (d + 1) 46 ++ 13 :: (10 :: rowsD ds))) := by simpa [rowsD, rowsT] using hat
    refine (get0_call w a ok hread line tl kb pl tp j d (10 :: rowsD ds) (by have := hd9 d (.head _); omega) hat').mono ?_
    rintro v post ⟨t, tl', tp', rfl, rfl⟩
    refine ⟨t, tl', tp', pl + j + d + 2, rfl, ?_, rfl⟩
    have := At.adv (r := 10 :: rowsD ds) (List.replicate j 10 ++ (List.replicate (d + 1) 46 ++ [13])) (by simpa using hat')
    simp at this
    rw [show pl + (j : Int) + d + 2 = pl + ((j : Int) + ((d : Int) + 1 + 1)) by omega]
    exact this
theorem RowsAre.app {vs ws : List Value} {qs rs : List Nat} (h : RowsAre vs qs) (h' : RowsAre ws rs) : RowsAre (vs ++ ws) (qs ++ rs) := by
  induction h with
  | nil => exact h'
  | cons q t _ ih => exact .cons q t ih
theorem RowsAre.cut {vs : List Value} {qs : List Nat} (h : RowsAre vs qs) : ∀ k, RowsAre (vs.take k) (qs.take k) ∧ RowsAre (vs.drop k) (qs.drop k) := by
  induction h with
  | nil => intro k; simp; exact .nil
  | cons q t h ih =>
    intro k
    cases k with
    | zero => exact ⟨.nil, .cons q t h⟩
    | succ k => exact ⟨.cons q t (ih k).1, (ih k).2⟩
theorem RowsAre.get {vs : List Value} {qs : List Nat} (h : RowsAre vs qs) : ∀ (i : Nat) (v : Value), vs[i]? = some v → ∃ q t, v = .str (dots (q + 1)) t ∧ qs[i]? = some q := by
  induction h with
  | nil => intro i v hv; simp at hv
  | cons q t h ih =>
    intro i v hv
    cases i with
    | zero => simp at hv; exact ⟨q, t, hv.symm, rfl⟩
    | succ i => exact ih i v (by simpa using hv)
theorem take_snoc {α : Type} {l : List α} {i : Nat} {q : α} (h : l[i]? = some q) : l.take (i + 1) = l.take i ++ [q] := by
  rw [List.take_add_one, h]; rfl
theorem ins_sorted {os : List Int} {x : Int} {k : Nat} (hs : os.Pairwise (· ≤ ·)) (h : RightOf os x k) : (os.take k ++ x :: os.drop k).Pairwise (· ≤ ·) := by
  obtain ⟨h1, h2, h3⟩ := h
  rw [List.pairwise_append]
  refine ⟨hs.take, List.pairwise_cons.mpr ⟨fun y hy => ?_, hs.drop⟩, fun y hy z hz => ?_⟩
  · obtain ⟨j, hj, rfl⟩ := List.mem_iff_getElem.mp hy
    rw [List.getElem_drop]
    exact Int.le_of_lt (h3 _ _ (by omega))
  · obtain ⟨i, hi, rfl⟩ := List.mem_iff_getElem.mp hy
    rw [List.length_take] at hi
    rw [List.getElem_take]
    have hyx := h2 i (by omega) (by omega)
    rcases List.mem_cons.mp hz with rfl | hz
    · exact hyx
    · obtain ⟨j, hj, rfl⟩ := List.mem_iff_getElem.mp hz
      rw [List.getElem_drop]
      exact Int.le_trans hyx (Int.le_of_lt (h3 _ _ (by omega)))
theorem ins_perm {os l : List Int} {x : Int} {k : Nat} (h : os.Perm l) : (os.take k ++ x :: os.drop k).Perm (l ++ [x]) := by
  refine (List.perm_middle).trans ?_
  rw [List.take_append_drop]
  exact ((List.Perm.cons x h)).trans (List.perm_append_singleton x l).symm
theorem rowsD_len : ∀ ds : List Nat, (∀ d ∈ ds, d < 100) → (rowsD ds).length ≤ 200 * ds.length
  | [], _ => by simp [rowsD, rowsT]
  | d :: ds, h => by
    have h1 := rowsD_len ds fun q hq => h q (.tail _ hq)
    have h2 := h d (.head _)
    simp only [rowsD, List.map_cons, rowsT, List.length_append, List.length_replicate, List.length_cons, List.length_nil] at h1 ⊢
    omega
theorem rangeKs_snoc (i : Nat) : rangeKs 0 (i + 1) = rangeKs 0 i ++ [(0 : Int) + (i : Int)] := by simp [rangeKs, List.range_succ]
def lexAd (a : LexA) : List Nat := [a.LD, a.PB, a.LX, a.ST, a.SD, a.PL, a.RD, a.RC, a.CT, a.CP]
theorem RC_ne {w : World} {g h : Heap} {L : Addr} {a : LexA} {line pl : Int} {tl tp kb : Nat} (hoc : CodeOk a.oc) (N2 : News g L h ((126, tabObj (tabFull a.RC)) :: lexM w a line tl [] kb pl tp)) : a.RC ≠ 126 := by
  intro e
  have n1 := (N2 _ (.head _)).1
  have n2 := (N2 (a.RC, a.oc) (by simp [lexM, rdM, rdP, lexO])).1
  rw [e] at n2
  rw [n1] at n2
  obtain ⟨vs, t, q1, q2⟩ := hoc
  have e2 : tabObj (tabFull a.RC) = a.oc := Option.some.inj n2
  rw [← e2] at q1
  have e3 : tabFull a.RC = vs := by injection q1
  rw [← e3] at q2
  simp [tabFull, rawInt] at q2
/-- while the rows are read -/
inductive TnA (w : World) (a : LexA) (kb : Nat) (Z : Int) (tz fst tf : Nat) (ds : List Nat) (s : Shared) (g : Heap) (L RL : Nat) (n : Nat) (s1 : Shared) : Prop
  | mk (h1 : Heap) (tk1 : Nat) (done cur : List Nat) (vsR : List Value) (pl1 : Int) (tr tl1 tp1 kR : Nat) (e : s1 = { s with heap := h1, toks := tk1 })
    (F : FrAt g L h1 [("lexer", .ref a.LX), ("rows", .ref RL), ("row", .str (dots (hdD cur)) tr), ("size", .int Z tz), ("first", .int (fst : Int) tf)])
    (N : News g L h1 ((RL, W.listOf vsR.toArray kR) :: (126, tabObj (tabFull a.RC)) :: lexM w a (1 + (done.length : Int)) tl1 [] kb pl1 tp1)) (hrows : RowsAre vsR done) (hdc : done ++ cur = ds) (hat : At a.text pl1 (tlD cur)) (en : n = cur.length)
/-- while the cars line up -/
inductive TnB (w : World) (a : LexA) (Z : Int) (tz fst : Nat) (done : List Nat) (vsR : List Value) (kR tl1 : Nat) (pl1 : Int) (tp1 : Nat) (s : Shared) (g : Heap) (L RL : Nat) (J : Addr) (k : Nat) (s1 : Shared) : Prop
  | mk (CL : Nat) (o : Obj) (h2 : Heap) (tk2 i kc : Nat) (pb : List Value) (kb2 : Nat) (e : s1 = { s with heap := h2, toks := tk2 }) (F : FrAt g L h2 [("lexer", .ref a.LX), ("rows", .ref RL), ("size", .int Z tz)])
    (N : News g L h2 ((J, o) :: (CL, W.listOf (vsR.drop fst ++ vsR.take fst).toArray kc) :: (RL, W.listOf vsR.toArray kR) :: (126, tabObj (tabFull a.RC)) :: lexM w a (1 + (done.length : Int)) tl1 pb kb2 pl1 tp1)) (hlo : LiO CL i o)
    (hJ : AL J (CL :: RL :: 126 :: lexAd a)) (hCL : AL CL (RL :: 126 :: lexAd a)) (hpb : RowsAre pb ((done.drop fst ++ done.take fst).take i)) (ek : k = done.length - i) (hi : i ≤ done.length)
/-- while the order is made -/
inductive TnC (w : World) (a : LexA) (Z : Int) (tz : Nat) (done : List Nat) (vsR vsf : List Value) (far : Int) (tff kff kR tl5 kb5 : Nat) (pl1 : Int) (tp5 : Nat) (s : Shared) (g : Heap) (L RL FL OL : Nat) (J : Addr) (k : Nat) (s1 : Shared) : Prop
  | mk (o : Obj) (h3 : Heap) (tk3 i : Nat) (vo : List Value) (os : List Int) (ko : Nat) (e : s1 = { s with heap := h3, toks := tk3 })
    (F : FrAt g L h3 [("lexer", .ref a.LX), ("rows", .ref RL), ("size", .int Z tz), ("order", .ref OL), ("free", .ref FL), ("far", .int far tff)])
    (N : News g L h3 ((J, o) :: (OL, W.listOf vo.toArray ko) :: (RL, W.listOf vsR.toArray kR) :: (FL, W.listOf vsf.toArray kff) :: (126, tabObj (tabFull a.RC)) :: lexM w a (1 + (done.length : Int)) tl5 [] kb5 pl1 tp5)) (hlo : LiO RL i o)
    (hJ : AL J (OL :: RL :: FL :: 126 :: lexAd a)) (hio : IntsAre vo os) (hso : os.Pairwise (· ≤ ·)) (hpo : os.Perm ((done.take i).map fun (q : Nat) => (q : Int) % Z)) (ek : k = done.length - i) (hi : i ≤ done.length)
/-- a turn told -/
inductive TurnP (Z : Int) (ds : List Nat) (TB : List (Addr × Obj)) (r : Value) (post : List (Addr × Obj)) : Prop
  | mk (rec : TRec) (TB' : List (Addr × Obj)) (er : r = .ref rec.RT) (hT : TabSt TB') (hTs : ∀ b ∈ TB.map (·.1), b ∈ TB'.map (·.1)) (hr : RowsAre rec.vsR ds) (hp : 0 ≤ rec.p ∧ rec.p < Z)
    (hc : ∀ j : Int, 0 ≤ j → j < Z → cnt Z rec.p j (resid Z ds) ≤ j.toNat) (hf : 2 * (rec.far + phiSum Z rec.p (resid Z ds)) = (Z - 1) * (Z - 2)) (ep : post = rec.led Z ++ TB')
inductive EmP (b : Bool) (r : Value) (post : List (Addr × Obj)) : Prop
  | mk (er : r = .bool b) (ep : post = [])
inductive CmpG (i : Nat) (f : List Str) (ys : List Value) : Prop
  | mk (l : List (Str × Tok)) (e : ys = strValues l) (h : l.map (·.1) = f)
theorem rowsD_small {x : Str} {ds : List Nat} {Z : Int} (hx : x.cps.toList = rowsD ds) (hd9 : ∀ d ∈ ds, d < 100) (hZ : Z = (ds.length : Int) + 1) (hZ2 : 4 ≤ Z ∧ Z ≤ 7) : x.length < 1000000 := by
  have h1 := rowsD_len ds hd9
  rw [len_toList, hx]; omega
theorem z_rg {Z : Int} (hZ2 : 4 ≤ Z ∧ Z ≤ 7) : 2 ≤ Z ∧ Z < 100 := by omega
theorem wish_fmod (q : Nat) {Z : Int} (hZ2 : 4 ≤ Z ∧ Z ≤ 7) : ((q : Int) + 1 - 1).fmod Z = (q : Int) % Z := by
  rw [show (q : Int) + 1 - 1 = q by omega, Int.fmod_eq_emod_of_nonneg _ (by omega)]
theorem wantP_small {os : List Int} (hos : ∀ z ∈ os, 0 ≤ z ∧ z < 7) : ∀ y ∈ os.map wantP, y.length ≤ 1000 := by
  intro y hy
  obtain ⟨z, hz, rfl⟩ := List.mem_map.mp hy
  have := hos z hz
  rw [wantP_len this.1]; omega
theorem stairP_small {Z : Int} (hZ2 : 4 ≤ Z ∧ Z ≤ 7) : ((rangeKs 0 (Z - 1).toNat).map stairP).length ≤ 100 ∧ ∀ y ∈ (rangeKs 0 (Z - 1).toNat).map stairP, y.length ≤ 1000 := by
  refine ⟨by rw [List.length_map, rangeKs_length]; omega, fun y hy => ?_⟩
  obtain ⟨z, hz, rfl⟩ := List.mem_map.mp hy
  have := mem_rangeKs hz
  rw [stairP_len this.1]; omega
theorem z_n {Z : Int} (hZ2 : 4 ≤ Z ∧ Z ≤ 7) : (((Z - 1).toNat : Nat) : Int) = Z - 1 ∧ (Z - 1).toNat ∈ [3, 4, 5, 6] := by
  refine ⟨by omega, ?_⟩
  have : Z = 4 ∨ Z = 5 ∨ Z = 6 ∨ Z = 7 := by omega
  rcases this with rfl | rfl | rfl | rfl <;> decide
theorem resid_rg {Z : Int} (hZ2 : 4 ≤ Z ∧ Z ≤ 7) (l : List Nat) : ∀ z ∈ resid Z l, 0 ≤ z ∧ z < Z := fun z hz => by
  obtain ⟨q, _, rfl⟩ := List.mem_map.mp hz
  exact ⟨Int.emod_nonneg _ (by omega), Int.emod_lt_of_pos _ (by omega)⟩
theorem cnt_unrot {Z pp : Int} {done : List Nat} {k : Nat} (h : ∀ j : Int, 0 ≤ j → j < Z → cnt Z pp j (resid Z (done.drop k ++ done.take k)) ≤ j.toNat) : ∀ j : Int, 0 ≤ j → j < Z → cnt Z pp j (resid Z done) ≤ j.toNat := fun j j0 j1 => by
  have := h j j0 j1
  rwa [resid_rot, cnt_rot] at this
theorem one_int {vsf : List Value} {pp : Int} (h : IntsAre vsf [pp]) : ∃ tq, vsf = [.int pp tq] := by
  cases h with
  | cons _ t h => cases h with
    | nil => exact ⟨t, rfl⟩
theorem want_rg {Z : Int} {os : List Int} {W : List Int} (h : os.Perm W) (hW : ∀ z ∈ W, 0 ≤ z ∧ z < Z) (hl : (W.length : Int) + 1 = Z) : (∀ z ∈ os, 0 ≤ z ∧ z ≤ (((Z - 1).toNat : Nat) : Int)) ∧ os.length = (Z - 1).toNat :=
  ⟨fun z hz => by have := hW z (h.mem_iff.mp hz); omega, by have := h.length_eq; omega⟩
theorem snoc_len (l : List Nat) (q : Nat) : (1 : Int) + ((l ++ [q]).length : Int) = 1 + (l.length : Int) + ((1 : Nat) : Int) := by simp; omega
theorem done_lt {Z : Int} {ds done cur : List Nat} (hZ : Z = (ds.length : Int) + 1) (hZ2 : 4 ≤ Z ∧ Z ≤ 7) (hdc : done ++ cur = ds) : done.length < 7 ∧ done.length ≤ ds.length := by
  have h2 := congrArg List.length hdc; rw [List.length_append] at h2; omega
theorem rot_len {α : Type} (l : List α) (k : Nat) : (l.drop k ++ l.take k).length = l.length := by simp; omega
theorem rot_end {v : Option Value} {vs : List Value} {k i n : Nat} (hn : (vs.drop k ++ vs.take k).toArray[i]? = none) (hl : vs.length = n) (hi : i ≤ n) : i = n := by
  have := rot_len vs k
  rcases Nat.lt_or_ge i n with h | h
  · simp at hn; omega
  · omega
theorem mid_end {vs : List Value} {i n : Nat} (hn : vs.toArray[i]? = none) (hl : vs.length = n) (hi : i ≤ n) : i = n := by
  rcases Nat.lt_or_ge i n with h | h
  · simp at hn; omega
  · omega
theorem os_rg {Z : Int} (hZ2 : 4 ≤ Z ∧ Z ≤ 7) {os : List Int} {l : List Nat} (h : os.Perm (l.map fun (q : Nat) => (q : Int) % Z)) : ∀ z ∈ os, 0 ≤ z ∧ z < 7 := by
  intro z hz
  obtain ⟨q, _, rfl⟩ := List.mem_map.mp (h.mem_iff.mp hz)
  exact ⟨Int.emod_nonneg _ (by omega), by have := Int.emod_lt_of_pos (q : Int) (show 0 < Z by omega); omega⟩
theorem turn_call (w : World) (x : Str) (tx : Tok) (Z : Int) (tz : Tok) (fst : Nat) (tf : Tok) (ds : List Nat) (TB : List (Addr × Obj)) (hT : TabSt TB) (hx : x.cps.toList = rowsD ds) (hZ : Z = (ds.length : Int) + 1) (hZ2 : 4 ≤ Z ∧ Z ≤ 7) (hf : fst < ds.length) (hd9 : ∀ d ∈ ds, d < 100) :
    Call w 12 700 (.ref 150) [.str x tx, .int Z tz, .int (fst : Int) tf] TB (TurnP Z ds TB) := by
  unfold Call
  intro p loose mean mg mb dp un gd cn cs b ccd cl outer A₀ base h₀ L m s Q E B F X C N T hcs hd hu hret
  ((k_dflt (refine' code_defK ?k1 ?k2 ?k3 ?kC ?k4 ?k5 ?kA ?kF ?kK ?k6 ?k7 ?k8 ?k9 ?kB ?_ ?c2 ?c3 ?c4 ?c5; (case kA => exact rfl); (case kF => exact rfl); (case kK => assumption); (case k1 => k_asm); (case k2 => k_asm); (case k3 => k_asm); (case kC => k_asm); (case k4 => k_asm); (case k5 => k_asm); (case k6 => k_is); (case k7 => k_is); (case k8 => k_room); (case k9 => first | exact BindsTo.of_eq rfl | (refine' kp_binds ?kx ?ke; (case kx => k_in); (case ke => exact fun _ => rfl))); (case c5 => decide); (case kB => exact locs rfl); (case c2 => exact rfl); (case c3 => exact rfl); (case c4 => exact rfl); k_whole)))
  intro g' L' h' FG' F' N' B' X' T' C' Kg l1
  change Fr g' L' h' (fun y => List.lookup y [(Str.ofString "first", Value.int (fst : Int) tf), (Str.ofString "size", Value.int Z tz), (Str.ofString "mail", Value.str x tx)]) at F'
  (try dsimp only); (try k_fold)
  (repeat' (first | (k_unfold; (try dsimp only)) | (k_end; wrow_close) | ((((fail_if_success (with_reducible show wpAny _ _ (exec (Stmt.For _ _ _ _ _) _) _ _ _)); (fail_if_success (with_reducible show wpAny _ _ (exec (Stmt.While _ _ _ _) _) _ _ _)); (fail_if_success (with_reducible show Exists _)); (fail_if_success (with_reducible show wpAny _ _ (eval (Expr.ListComp _ _ _ _) _) _ _ _)); (fail_if_success (with_reducible show LCg.CompSrc _ _ _ _ _ _ _ _ _ _ _ _ _ _)); (fail_if_success (with_reducible show LCt.CompSrcT _ _ _ _ _ _ _ _ _ _ _ _ _ _ _)); (fail_if_success ((with_reducible refine stopAt ?gdK ?gdH); (case gdK => exact rfl))))); (try (rename News _ _ _ _ => nN; dsimp only at nN)); walk1) | ((((fail_if_success (with_reducible show wpAny _ _ (exec (Stmt.For _ _ _ _ _) _) _ _ _)); (fail_if_success (with_reducible show wpAny _ _ (exec (Stmt.While _ _ _ _) _) _ _ _)); (fail_if_success (with_reducible show Exists _)); (fail_if_success (with_reducible show wpAny _ _ (eval (Expr.ListComp _ _ _ _) _) _ _ _)); (fail_if_success (with_reducible show LCg.CompSrc _ _ _ _ _ _ _ _ _ _ _ _ _ _)); (fail_if_success (with_reducible show LCt.CompSrcT _ _ _ _ _ _ _ _ _ _ _ _ _ _ _)); (fail_if_success ((with_reducible refine stopAt ?gdK ?gdH); (case gdK => exact rfl))))); dsimp only; walk1) | (leave1; walk_say "STEP leave1"; try dsimp only) | fail "no step"))
  have hxl := rowsD_small hx hd9 hZ hZ2
  refine' Call.use (lex_call w x tx TB hT hxl) (rest := []) ?B ?F ?X ?C ?N ?T ?hs ?hr ?ho ?hk ?hd ?hu ?_
  ((case B => assumption); (case F => assumption); (case X => assumption); (case C => assumption); (case N => assumption); (case T => assumption); (case hs => exact fun q hq => hq); (case hr => exact List.forall_mem_nil _); (case ho => exact List.forall_mem_nil _); (case hk => exact rfl); (case hd => ktr_room); (case hu => ktr_units))
  rintro _ _ h2 tk2 ⟨a, tl, kb, tp, rfl, ht, ok, hread, h126, hoc, hTBa, rfl⟩ F2 N2 K2 Z2
  have hRC := RC_ne hoc N2
  have hnd := ok.nodup126 h126 hRC
  (try dsimp only); (try k_fold)
  dsimp only [lexM, lexO, rdM, rdP, lexD, strD, List.cons_append, List.nil_append] at N2
  (repeat' (first | (k_unfold; (try dsimp only)) | (k_end; wrow_close) | ((((fail_if_success (with_reducible show wpAny _ _ (exec (Stmt.For _ _ _ _ _) _) _ _ _)); (fail_if_success (with_reducible show wpAny _ _ (exec (Stmt.While _ _ _ _) _) _ _ _)); (fail_if_success (with_reducible show Exists _)); (fail_if_success (with_reducible show wpAny _ _ (eval (Expr.ListComp _ _ _ _) _) _ _ _)); (fail_if_success (with_reducible show LCg.CompSrc _ _ _ _ _ _ _ _ _ _ _ _ _ _)); (fail_if_success (with_reducible show LCt.CompSrcT _ _ _ _ _ _ _ _ _ _ _ _ _ _ _)); (fail_if_success ((with_reducible refine stopAt ?gdK ?gdH); (case gdK => exact rfl))))); (try (rename News _ _ _ _ => nN; dsimp only at nN)); walk1) | ((((fail_if_success (with_reducible show wpAny _ _ (exec (Stmt.For _ _ _ _ _) _) _ _ _)); (fail_if_success (with_reducible show wpAny _ _ (exec (Stmt.While _ _ _ _) _) _ _ _)); (fail_if_success (with_reducible show Exists _)); (fail_if_success (with_reducible show wpAny _ _ (eval (Expr.ListComp _ _ _ _) _) _ _ _)); (fail_if_success (with_reducible show LCg.CompSrc _ _ _ _ _ _ _ _ _ _ _ _ _ _)); (fail_if_success (with_reducible show LCt.CompSrcT _ _ _ _ _ _ _ _ _ _ _ _ _ _ _)); (fail_if_success ((with_reducible refine stopAt ?gdK ?gdH); (case gdK => exact rfl))))); dsimp only; walk1) | (leave1; walk_say "STEP leave1"; try dsimp only) | fail "no step"))
  rename_i RL lt3 _ _ FF NN
  refine' Call.use (rd_call w a ok hread 1 tl kb 0 tp 0 ds (fun d h => Nat.lt_of_lt_of_le (hd9 d h) (by decide)) ?hat) (rest := [(126, tabObj (tabFull a.RC)), (RL, W.listOf #[] 0)]) ?B ?F ?X ?C ?N ?T ?hs ?hr ?ho ?hk ?hd ?hu ?_
  case hat => exact ⟨Int.le_refl _, Int.natCast_nonneg _, by rw [ht]; exact hx⟩
  (((case B => assumption); (case F => assumption); (case X => assumption); (case C => assumption); (case N => assumption); (case T => assumption); (case hs => (first | exact subI | (((try dsimp only [lexM, lexO, rdM, rdP, lexD, strD, List.cons_append, List.nil_append])); first | walk_at "ALLIN" | walk_at "SUBALL"))); (case hr => (first | exact subI | (((try dsimp only [lexM, lexO, rdM, rdP, lexD, strD, List.cons_append, List.nil_append])); first | walk_at "ALLIN" | walk_at "SUBALL"))); (case ho => first | walk_at "OFF" | (((try dsimp only [lexM, lexO, rdM, rdP, lexD, strD, List.cons_append, List.nil_append])); walk_at "OFF")); (case hk => first | exact rfl | assumption); (case hd => ktr_room); (case hu => ktr_units)))
  rintro _ _ h4 tk4 ⟨t4, tl4, tp4, pl4, rfl, hat4, rfl⟩ F4 N4 K4 Z4
  clear FF NN K4 Z4
  dsimp only [lexM, lexO, rdM, rdP, lexD, strD, List.cons_append, List.nil_append] at N4
  (try dsimp only); (try k_fold)
  (repeat' (first | (k_unfold; (try dsimp only)) | (k_end; wrow_close) | ((((fail_if_success (with_reducible show wpAny _ _ (exec (Stmt.For _ _ _ _ _) _) _ _ _)); (fail_if_success (with_reducible show wpAny _ _ (exec (Stmt.While _ _ _ _) _) _ _ _)); (fail_if_success (with_reducible show Exists _)); (fail_if_success (with_reducible show wpAny _ _ (eval (Expr.ListComp _ _ _ _) _) _ _ _)); (fail_if_success (with_reducible show LCg.CompSrc _ _ _ _ _ _ _ _ _ _ _ _ _ _)); (fail_if_success (with_reducible show LCt.CompSrcT _ _ _ _ _ _ _ _ _ _ _ _ _ _ _)); (fail_if_success ((with_reducible refine stopAt ?gdK ?gdH); (case gdK => exact rfl))))); (try (rename News _ _ _ _ => nN; dsimp only at nN)); walk1) | ((((fail_if_success (with_reducible show wpAny _ _ (exec (Stmt.For _ _ _ _ _) _) _ _ _)); (fail_if_success (with_reducible show wpAny _ _ (exec (Stmt.While _ _ _ _) _) _ _ _)); (fail_if_success (with_reducible show Exists _)); (fail_if_success (with_reducible show wpAny _ _ (eval (Expr.ListComp _ _ _ _) _) _ _ _)); (fail_if_success (with_reducible show LCg.CompSrc _ _ _ _ _ _ _ _ _ _ _ _ _ _)); (fail_if_success (with_reducible show LCt.CompSrcT _ _ _ _ _ _ _ _ _ _ _ _ _ _ _)); (fail_if_success ((with_reducible refine stopAt ?gdK ?gdH); (case gdK => exact rfl))))); dsimp only; walk1) | (leave1; walk_say "STEP leave1"; try dsimp only) | fail "no step"))
  rename News _ _ _ _ => NN
  rename Fr _ _ _ _ => FF
  refine while_invO (TnA w a kb Z tz fst tf ds s g' L' RL) ds.length ?_ (fun Iv hIv => ?_)
  · exact ⟨_, _, [], ds, [], pl4, t4, tl4, tp4, 0, rfl, ⟨_, FF, rfl⟩, newsSub NN (by (first | exact subI | (((try dsimp only [lexM, lexO, rdM, rdP, lexD, strD, List.cons_append, List.nil_append])); first | walk_at "ALLIN" | walk_at "SUBALL"))), .nil, rfl, hat4, rfl⟩
  · clear NN FF
    rintro n s1 ⟨h1, tk1, done, cur, vsR, pl1, tr, tl1, tp1, kR, rfl, F1, N1, hrows, hdc, hat1, rfl⟩
    refine F1.use fun m1 F2 => ?_
    clear F1
    dsimp only [lexM, lexO, rdM, rdP, lexD, strD, List.cons_append, List.nil_append] at N1
    have hdl := done_lt hZ hZ2 hdc
    have hrl := hrows.length
    have hvl : vsR.length < 1000 := by rw [hrl]; exact Nat.lt_trans hdl.1 (by decide)
    cases cur with
    | nil =>
      rw [List.append_nil] at hdc
      subst hdc
      simp only [hdD] at F2
      rw [show dots 0 = Str.ofString "" by decide] at *
      (repeat' (first | (k_unfold; (try dsimp only)) | (k_end; wrow_close) | ((((fail_if_success (with_reducible show wpAny _ _ (exec (Stmt.For _ _ _ _ _) _) _ _ _)); (fail_if_success (with_reducible show wpAny _ _ (exec (Stmt.While _ _ _ _) _) _ _ _)); (fail_if_success (with_reducible show Exists _)); (fail_if_success (with_reducible show wpAny _ _ (eval (Expr.ListComp _ _ _ _) _) _ _ _)); (fail_if_success (with_reducible show LCg.CompSrc _ _ _ _ _ _ _ _ _ _ _ _ _ _)); (fail_if_success (with_reducible show LCt.CompSrcT _ _ _ _ _ _ _ _ _ _ _ _ _ _ _)); (fail_if_success ((with_reducible refine stopAt ?gdK ?gdH); (case gdK => exact rfl))))); (try (rename News _ _ _ _ => nN; dsimp only at nN)); walk1) | ((((fail_if_success (with_reducible show wpAny _ _ (exec (Stmt.For _ _ _ _ _) _) _ _ _)); (fail_if_success (with_reducible show wpAny _ _ (exec (Stmt.While _ _ _ _) _) _ _ _)); (fail_if_success (with_reducible show Exists _)); (fail_if_success (with_reducible show wpAny _ _ (eval (Expr.ListComp _ _ _ _) _) _ _ _)); (fail_if_success (with_reducible show LCg.CompSrc _ _ _ _ _ _ _ _ _ _ _ _ _ _)); (fail_if_success (with_reducible show LCt.CompSrcT _ _ _ _ _ _ _ _ _ _ _ _ _ _ _)); (fail_if_success ((with_reducible refine stopAt ?gdK ?gdH); (case gdK => exact rfl))))); dsimp only; walk1) | (leave1; walk_say "STEP leave1"; try dsimp only) | fail "no step"))
      rename News _ _ _ _ => NN
      rename Fr _ _ _ _ => FF
      have hfv : fst < vsR.length := by rw [hrl]; exact hf
      refine for_invO (TnB w a Z tz fst done vsR kR tl1 pl1 tp1 s g' L' RL) (fun Iv hIv => ?_) (fun Iv hIv => ?_)
      · (repeat' (first | (k_unfold; (try dsimp only)) | (k_end; wrow_close) | ((((fail_if_success (with_reducible show wpAny _ _ (exec (Stmt.For _ _ _ _ _) _) _ _ _)); (fail_if_success (with_reducible show wpAny _ _ (exec (Stmt.While _ _ _ _) _) _ _ _)); (fail_if_success (with_reducible show Exists _)); (fail_if_success (with_reducible show wpAny _ _ (eval (Expr.ListComp _ _ _ _) _) _ _ _)); (fail_if_success (with_reducible show LCg.CompSrc _ _ _ _ _ _ _ _ _ _ _ _ _ _)); (fail_if_success (with_reducible show LCt.CompSrcT _ _ _ _ _ _ _ _ _ _ _ _ _ _ _)); (fail_if_success ((with_reducible refine stopAt ?gdK ?gdH); (case gdK => exact rfl))))); (try (rename News _ _ _ _ => nN; dsimp only at nN)); walk1) | ((((fail_if_success (with_reducible show wpAny _ _ (exec (Stmt.For _ _ _ _ _) _) _ _ _)); (fail_if_success (with_reducible show wpAny _ _ (exec (Stmt.While _ _ _ _) _) _ _ _)); (fail_if_success (with_reducible show Exists _)); (fail_if_success (with_reducible show wpAny _ _ (eval (Expr.ListComp _ _ _ _) _) _ _ _)); (fail_if_success (with_reducible show LCg.CompSrc _ _ _ _ _ _ _ _ _ _ _ _ _ _)); (fail_if_success (with_reducible show LCt.CompSrcT _ _ _ _ _ _ _ _ _ _ _ _ _ _ _)); (fail_if_success ((with_reducible refine stopAt ?gdK ?gdH); (case gdK => exact rfl))))); dsimp only; walk1) | (leave1; walk_say "STEP leave1"; try dsimp only) | fail "no step"))
        rename News _ _ _ _ => NS
        rename Fr _ _ _ _ => FS
        rw [slicePick_from', slicePick_upto', show vsR.toArray.toList = vsR from rfl] at NS
        k_here
        k_dflt (refine' addLists ?k1 ?k2 ?k3 ?k4 ?k5 ?_; (case k1 => exact FS); (case k2 => exact NS); (case k3 => exact .tail _ (.head _)); (case k4 => exact .head _); (case k5 => (simp; omega)); k_whole)
        intro CL h7 F7 N7 lt7
        clear FS NS
        (try dsimp only); (try k_fold)
        k_here
        k_dflt (refine' list_iter ?k1 ?k2 ?k3 ?_; (case k1 => exact F7); (case k2 => exact N7); (case k3 => exact .head _); k_whole)
        intro IT1 h8 F8 N8 lt8
        (k_unfold; (try dsimp only))
        refine kOut0 hIv ?_
        exact ⟨IT1, done.length, rfl, CL, _, _, _, 0, 0, [], kb, rfl, ⟨_, F8, rfl⟩, newsSub N8 (by (first | exact subI | (((try dsimp only [lexM, lexO, rdM, rdP, lexD, strD, List.cons_append, List.nil_append])); first | walk_at "ALLIN" | walk_at "SUBALL"))), LiO.start _, (AL.of lt8).sub (by walk_at "ALLIN"), (AL.of lt7).sub (by walk_at "ALLIN"), .nil, rfl, Nat.zero_le _⟩
      · clear NN FF
        rintro J' k s1 ⟨CL, o, h2, tk2, i, kc, pb, kb2, rfl, F1, N1, hlo, hJ1, hCL, hpb, rfl, hi1⟩
        refine F1.use fun m2 F2 => ?_
        clear F1
        dsimp only [lexM, lexO, rdM, rdP, lexD, strD, List.cons_append, List.nil_append] at N1
        have hrot := (hrows.cut fst).2.app (hrows.cut fst).1
        have hrl2 : (vsR.drop fst ++ vsR.take fst).length = done.length := by rw [rot_len, hrl]
        refine list_next rfl F2 N1 hlo ?_ (.head _) (fun v hv o2 h3 hlo2 F3 N3 => ?_) (fun hn h3 F3 N3 => ?_)
        · walk_at "OFF"
        · obtain ⟨q, tq, rfl, hq⟩ := hrot.get i v (by simpa using hv)
          have hil : i < done.length := by
            have := (List.getElem?_eq_some_iff.mp hq).1
            rwa [rot_len] at this
          have hpbl : ((done.drop fst ++ done.take fst).take i).length < 1000 := Nat.lt_of_le_of_lt (List.length_take_le _ _) (Nat.lt_of_le_of_lt hi1 (Nat.lt_trans hdl.1 (by decide)))
          generalize hdx : dots (q + 1) = xx at *
          clear F2 N1
          (repeat' (first | (k_unfold; (try dsimp only)) | (k_end; wrow_close) | ((((fail_if_success (with_reducible show wpAny _ _ (exec (Stmt.For _ _ _ _ _) _) _ _ _)); (fail_if_success (with_reducible show wpAny _ _ (exec (Stmt.While _ _ _ _) _) _ _ _)); (fail_if_success (with_reducible show Exists _)); (fail_if_success (with_reducible show wpAny _ _ (eval (Expr.ListComp _ _ _ _) _) _ _ _)); (fail_if_success (with_reducible show LCg.CompSrc _ _ _ _ _ _ _ _ _ _ _ _ _ _)); (fail_if_success (with_reducible show LCt.CompSrcT _ _ _ _ _ _ _ _ _ _ _ _ _ _ _)); (fail_if_success ((with_reducible refine stopAt ?gdK ?gdH); (case gdK => exact rfl))))); (try (rename News _ _ _ _ => nN; dsimp only at nN)); walk1) | ((((fail_if_success (with_reducible show wpAny _ _ (exec (Stmt.For _ _ _ _ _) _) _ _ _)); (fail_if_success (with_reducible show wpAny _ _ (exec (Stmt.While _ _ _ _) _) _ _ _)); (fail_if_success (with_reducible show Exists _)); (fail_if_success (with_reducible show wpAny _ _ (eval (Expr.ListComp _ _ _ _) _) _ _ _)); (fail_if_success (with_reducible show LCg.CompSrc _ _ _ _ _ _ _ _ _ _ _ _ _ _)); (fail_if_success (with_reducible show LCt.CompSrcT _ _ _ _ _ _ _ _ _ _ _ _ _ _ _)); (fail_if_success ((with_reducible refine stopAt ?gdK ?gdH); (case gdK => exact rfl))))); dsimp only; walk1) | (leave1; walk_say "STEP leave1"; try dsimp only) | fail "no step"))
          rename News _ _ _ _ => NN
          rename Fr _ _ _ _ => FF
          refine' Call.use (push1_call w a ok xx q hdx.symm tq (1 + (done.length : Int)) tl1 pb _ kb2 pl1 tp1 hpb hpbl) (rest := [(J', o2), (CL, W.listOf (vsR.drop fst ++ vsR.take fst).toArray kc), (RL, W.listOf vsR.toArray kR), (126, tabObj (tabFull a.RC))]) ?B ?F ?X ?C ?N ?T ?hs ?hr ?ho ?hk ?hd ?hu ?_
          (((case B => assumption); (case F => assumption); (case X => assumption); (case C => assumption); (case N => assumption); (case T => assumption); (case hs => (first | exact subI | (((try dsimp only [lexM, lexO, rdM, rdP, lexD, strD, List.cons_append, List.nil_append])); first | walk_at "ALLIN" | walk_at "SUBALL"))); (case hr => (first | exact subI | (((try dsimp only [lexM, lexO, rdM, rdP, lexD, strD, List.cons_append, List.nil_append])); first | walk_at "ALLIN" | walk_at "SUBALL"))); (case ho => first | walk_at "OFF" | (((try dsimp only [lexM, lexO, rdM, rdP, lexD, strD, List.cons_append, List.nil_append])); walk_at "OFF")); (case hk => first | exact rfl | assumption); (case hd => ktr_room); (case hu => ktr_units)))
          rintro _ _ h5 tk5 ⟨rfl, kb5, pb5, hpb5, rfl⟩ F5 N5 K5 Z5
          clear FF NN K5 Z5
          dsimp only [lexM, lexO, rdM, rdP, lexD, strD, List.cons_append, List.nil_append] at N5
          (try dsimp only); (try k_fold)
          (repeat' (first | (k_unfold; (try dsimp only)) | (k_end; wrow_close) | ((((fail_if_success (with_reducible show wpAny _ _ (exec (Stmt.For _ _ _ _ _) _) _ _ _)); (fail_if_success (with_reducible show wpAny _ _ (exec (Stmt.While _ _ _ _) _) _ _ _)); (fail_if_success (with_reducible show Exists _)); (fail_if_success (with_reducible show wpAny _ _ (eval (Expr.ListComp _ _ _ _) _) _ _ _)); (fail_if_success (with_reducible show LCg.CompSrc _ _ _ _ _ _ _ _ _ _ _ _ _ _)); (fail_if_success (with_reducible show LCt.CompSrcT _ _ _ _ _ _ _ _ _ _ _ _ _ _ _)); (fail_if_success ((with_reducible refine stopAt ?gdK ?gdH); (case gdK => exact rfl))))); (try (rename News _ _ _ _ => nN; dsimp only at nN)); walk1) | ((((fail_if_success (with_reducible show wpAny _ _ (exec (Stmt.For _ _ _ _ _) _) _ _ _)); (fail_if_success (with_reducible show wpAny _ _ (exec (Stmt.While _ _ _ _) _) _ _ _)); (fail_if_success (with_reducible show Exists _)); (fail_if_success (with_reducible show wpAny _ _ (eval (Expr.ListComp _ _ _ _) _) _ _ _)); (fail_if_success (with_reducible show LCg.CompSrc _ _ _ _ _ _ _ _ _ _ _ _ _ _)); (fail_if_success (with_reducible show LCt.CompSrcT _ _ _ _ _ _ _ _ _ _ _ _ _ _ _)); (fail_if_success ((with_reducible refine stopAt ?gdK ?gdH); (case gdK => exact rfl))))); dsimp only; walk1) | (leave1; walk_say "STEP leave1"; try dsimp only) | fail "no step"))
          rename News _ _ _ _ => NE
          rename Fr _ _ _ _ => FE
          refine kOut hIv ?_
          exact ⟨done.length - (i + 1), nsubS hil, CL, o2, _, _, i + 1, kc, pb5, kb5, rfl, ⟨_, FE, rfl⟩, newsSub NE (by (first | exact subI | (((try dsimp only [lexM, lexO, rdM, rdP, lexD, strD, List.cons_append, List.nil_append])); first | walk_at "ALLIN" | walk_at "SUBALL"))), hlo2, hJ1, hCL, by rw [take_snoc hq]; exact hpb5, rfl, hil⟩
        · have hie : i = done.length := mid_end hn hrl2 hi1
          clear F2 N1
          (repeat' (first | (k_unfold; (try dsimp only)) | (k_end; wrow_close) | ((((fail_if_success (with_reducible show wpAny _ _ (exec (Stmt.For _ _ _ _ _) _) _ _ _)); (fail_if_success (with_reducible show wpAny _ _ (exec (Stmt.While _ _ _ _) _) _ _ _)); (fail_if_success (with_reducible show Exists _)); (fail_if_success (with_reducible show wpAny _ _ (eval (Expr.ListComp _ _ _ _) _) _ _ _)); (fail_if_success (with_reducible show LCg.CompSrc _ _ _ _ _ _ _ _ _ _ _ _ _ _)); (fail_if_success (with_reducible show LCt.CompSrcT _ _ _ _ _ _ _ _ _ _ _ _ _ _ _)); (fail_if_success ((with_reducible refine stopAt ?gdK ?gdH); (case gdK => exact rfl))))); (try (rename News _ _ _ _ => nN; dsimp only at nN)); walk1) | ((((fail_if_success (with_reducible show wpAny _ _ (exec (Stmt.For _ _ _ _ _) _) _ _ _)); (fail_if_success (with_reducible show wpAny _ _ (exec (Stmt.While _ _ _ _) _) _ _ _)); (fail_if_success (with_reducible show Exists _)); (fail_if_success (with_reducible show wpAny _ _ (eval (Expr.ListComp _ _ _ _) _) _ _ _)); (fail_if_success (with_reducible show LCg.CompSrc _ _ _ _ _ _ _ _ _ _ _ _ _ _)); (fail_if_success (with_reducible show LCt.CompSrcT _ _ _ _ _ _ _ _ _ _ _ _ _ _ _)); (fail_if_success ((with_reducible refine stopAt ?gdK ?gdH); (case gdK => exact rfl))))); dsimp only; walk1) | (leave1; walk_say "STEP leave1"; try dsimp only) | fail "no step"))
          rename News _ _ _ _ => NN
          rename Fr _ _ _ _ => FF
          have hpb2 : RowsAre pb (done.drop fst ++ done.take fst) := by
            rw [hie, List.take_of_length_le (Nat.le_of_eq (rot_len done fst))] at hpb; exact hpb
          have hrotl : ((done.drop fst ++ done.take fst).length : Int) + 1 = Z := by rw [rot_len, hZ]
          have hrot9 : ∀ q ∈ done.drop fst ++ done.take fst, q < 900 := fun q hq => Nat.lt_of_lt_of_le (hd9 q ((List.mem_append.mp hq).elim List.mem_of_mem_drop List.mem_of_mem_take)) (by decide)
          refine' Call.use (drive_call w a ok hread Z tz (z_rg hZ2) (JJ Z (resid Z (done.drop fst ++ done.take fst))) (1 + (done.length : Int)) tl1 pb _ kb2 pl1 tp1 hat1 hpb2 (JJ.start hZ2 _ hrotl hrot9) (JJ.step hZ2)) (rest := [(RL, W.listOf vsR.toArray kR), (126, tabObj (tabFull a.RC))]) ?B ?F ?X ?C ?N ?T ?hs ?hr ?ho ?hk ?hd ?hu ?_
          (((case B => assumption); (case F => assumption); (case X => assumption); (case C => assumption); (case N => assumption); (case T => assumption); (case hs => (first | exact subI | (((try dsimp only [lexM, lexO, rdM, rdP, lexD, strD, List.cons_append, List.nil_append])); first | walk_at "ALLIN" | walk_at "SUBALL"))); (case hr => (first | exact subI | (((try dsimp only [lexM, lexO, rdM, rdP, lexD, strD, List.cons_append, List.nil_append])); first | walk_at "ALLIN" | walk_at "SUBALL"))); (case ho => first | walk_at "OFF" | (((try dsimp only [lexM, lexO, rdM, rdP, lexD, strD, List.cons_append, List.nil_append])); walk_at "OFF")); (case hk => first | exact rfl | assumption); (case hd => ktr_room); (case hu => ktr_units)))
          rintro _ _ h5 tk5 ⟨TP, FL, vsf, f, far, tff, kff, tl5, kb5, tp5, rfl, hjf, hif, rfl⟩ F5 N5 K5 Z5
          clear FF NN
          dsimp only [lexM, lexO, rdM, rdP, lexD, strD, List.cons_append, List.nil_append] at N5
          (try dsimp only); (try k_fold)
          (repeat' (first | (k_unfold; (try dsimp only)) | (k_end; wrow_close) | ((((fail_if_success (with_reducible show wpAny _ _ (exec (Stmt.For _ _ _ _ _) _) _ _ _)); (fail_if_success (with_reducible show wpAny _ _ (exec (Stmt.While _ _ _ _) _) _ _ _)); (fail_if_success (with_reducible show Exists _)); (fail_if_success (with_reducible show wpAny _ _ (eval (Expr.ListComp _ _ _ _) _) _ _ _)); (fail_if_success (with_reducible show LCg.CompSrc _ _ _ _ _ _ _ _ _ _ _ _ _ _)); (fail_if_success (with_reducible show LCt.CompSrcT _ _ _ _ _ _ _ _ _ _ _ _ _ _ _)); (fail_if_success ((with_reducible refine stopAt ?gdK ?gdH); (case gdK => exact rfl))))); (try (rename News _ _ _ _ => nN; dsimp only at nN)); walk1) | ((((fail_if_success (with_reducible show wpAny _ _ (exec (Stmt.For _ _ _ _ _) _) _ _ _)); (fail_if_success (with_reducible show wpAny _ _ (exec (Stmt.While _ _ _ _) _) _ _ _)); (fail_if_success (with_reducible show Exists _)); (fail_if_success (with_reducible show wpAny _ _ (eval (Expr.ListComp _ _ _ _) _) _ _ _)); (fail_if_success (with_reducible show LCg.CompSrc _ _ _ _ _ _ _ _ _ _ _ _ _ _)); (fail_if_success (with_reducible show LCt.CompSrcT _ _ _ _ _ _ _ _ _ _ _ _ _ _ _)); (fail_if_success ((with_reducible refine stopAt ?gdK ?gdH); (case gdK => exact rfl))))); dsimp only; walk1) | (leave1; walk_say "STEP leave1"; try dsimp only) | fail "no step"))
          rename_i OL lt6 _ _ FF NN
          refine for_invO (TnC w a Z tz done vsR vsf far tff kff kR tl5 kb5 pl1 tp5 s g' L' RL FL OL) (fun Iv hIv => ?_) (fun Iv hIv => ?_)
          · (repeat' (first | (k_unfold; (try dsimp only)) | (k_end; wrow_close) | ((((fail_if_success (with_reducible show wpAny _ _ (exec (Stmt.For _ _ _ _ _) _) _ _ _)); (fail_if_success (with_reducible show wpAny _ _ (exec (Stmt.While _ _ _ _) _) _ _ _)); (fail_if_success (with_reducible show Exists _)); (fail_if_success (with_reducible show wpAny _ _ (eval (Expr.ListComp _ _ _ _) _) _ _ _)); (fail_if_success (with_reducible show LCg.CompSrc _ _ _ _ _ _ _ _ _ _ _ _ _ _)); (fail_if_success (with_reducible show LCt.CompSrcT _ _ _ _ _ _ _ _ _ _ _ _ _ _ _)); (fail_if_success ((with_reducible refine stopAt ?gdK ?gdH); (case gdK => exact rfl))))); (try (rename News _ _ _ _ => nN; dsimp only at nN)); walk1) | ((((fail_if_success (with_reducible show wpAny _ _ (exec (Stmt.For _ _ _ _ _) _) _ _ _)); (fail_if_success (with_reducible show wpAny _ _ (exec (Stmt.While _ _ _ _) _) _ _ _)); (fail_if_success (with_reducible show Exists _)); (fail_if_success (with_reducible show wpAny _ _ (eval (Expr.ListComp _ _ _ _) _) _ _ _)); (fail_if_success (with_reducible show LCg.CompSrc _ _ _ _ _ _ _ _ _ _ _ _ _ _)); (fail_if_success (with_reducible show LCt.CompSrcT _ _ _ _ _ _ _ _ _ _ _ _ _ _ _)); (fail_if_success ((with_reducible refine stopAt ?gdK ?gdH); (case gdK => exact rfl))))); dsimp only; walk1) | (leave1; walk_say "STEP leave1"; try dsimp only) | fail "no step"))
            rename_i IT2 h8 F8 N8 lt8
            refine kOut0 hIv ?_
            exact ⟨IT2, done.length, rfl, _, _, _, 0, [], [], 0, rfl, ⟨_, F8, rfl⟩, newsSub N8 (by (first | exact subI | (((try dsimp only [lexM, lexO, rdM, rdP, lexD, strD, List.cons_append, List.nil_append])); first | walk_at "ALLIN" | walk_at "SUBALL"))), LiO.start _, lt8.sub (by first | walk_at "ALLIN" | walk_at "SUBALL"), .nil, List.Pairwise.nil, List.Perm.nil, rfl, Nat.zero_le _⟩
          · clear NN FF
            rintro J' k s1 ⟨o, h3, tk3, i2, vo, os, ko, rfl, F1, N1, hlo, hJ2, hio, hso, hpo, rfl, hi1⟩
            refine F1.use fun m3 F2 => ?_
            clear F1
            dsimp only [lexM, lexO, rdM, rdP, lexD, strD, List.cons_append, List.nil_append] at N1
            refine list_next rfl F2 N1 hlo ?_ (.tail _ (.head _)) (fun v hv o2 h3 hlo2 F3 N3 => ?_) (fun hn h3 F3 N3 => ?_)
            · walk_at "OFF"
            · obtain ⟨q, tq, rfl, hq⟩ := hrows.get i2 v (by simpa using hv)
              have hil : i2 < done.length := (List.getElem?_eq_some_iff.mp hq).1
              have hq9 : q < 100 := hd9 q (List.mem_of_getElem? hq)
              have hxl := dots_len q
              have hol : os.length < 1000 := by
                rw [hpo.length_eq, List.length_map]
                exact Nat.lt_of_le_of_lt (List.length_take_le _ _) (Nat.lt_of_le_of_lt hi1 (Nat.lt_trans hdl.1 (by decide)))
              generalize hdx : dots (q + 1) = xx at *
              clear F2 N1
              (repeat' (first | (k_unfold; (try dsimp only)) | (k_end; wrow_close) | ((((fail_if_success (with_reducible show wpAny _ _ (exec (Stmt.For _ _ _ _ _) _) _ _ _)); (fail_if_success (with_reducible show wpAny _ _ (exec (Stmt.While _ _ _ _) _) _ _ _)); (fail_if_success (with_reducible show Exists _)); (fail_if_success (with_reducible show wpAny _ _ (eval (Expr.ListComp _ _ _ _) _) _ _ _)); (fail_if_success (with_reducible show LCg.CompSrc _ _ _ _ _ _ _ _ _ _ _ _ _ _)); (fail_if_success (with_reducible show LCt.CompSrcT _ _ _ _ _ _ _ _ _ _ _ _ _ _ _)); (fail_if_success ((with_reducible refine stopAt ?gdK ?gdH); (case gdK => exact rfl))))); (try (rename News _ _ _ _ => nN; dsimp only at nN)); walk1) | ((((fail_if_success (with_reducible show wpAny _ _ (exec (Stmt.For _ _ _ _ _) _) _ _ _)); (fail_if_success (with_reducible show wpAny _ _ (exec (Stmt.While _ _ _ _) _) _ _ _)); (fail_if_success (with_reducible show Exists _)); (fail_if_success (with_reducible show wpAny _ _ (eval (Expr.ListComp _ _ _ _) _) _ _ _)); (fail_if_success (with_reducible show LCg.CompSrc _ _ _ _ _ _ _ _ _ _ _ _ _ _)); (fail_if_success (with_reducible show LCt.CompSrcT _ _ _ _ _ _ _ _ _ _ _ _ _ _ _)); (fail_if_success ((with_reducible refine stopAt ?gdK ?gdH); (case gdK => exact rfl))))); dsimp only; walk1) | (leave1; walk_say "STEP leave1"; try dsimp only) | fail "no step"))
              rename News _ _ _ _ => NN
              rename Fr _ _ _ _ => FF
              refine' Call.use (ins_call w OL vo os ko _ _ hio hso hol) (rest := (J', o2) :: (RL, W.listOf vsR.toArray kR) :: (FL, W.listOf vsf.toArray kff) :: (126, tabObj (tabFull a.RC)) :: lexM w a (1 + (done.length : Int)) tl5 [] kb5 pl1 tp5) ?B ?F ?X ?C ?N ?T ?hs ?hr ?ho ?hk ?hd ?hu ?_
              (((case B => assumption); (case F => assumption); (case X => assumption); (case C => assumption); (case N => assumption); (case T => assumption); (case hs => (first | exact subI | (((try dsimp only [lexM, lexO, rdM, rdP, lexD, strD, List.cons_append, List.nil_append])); first | walk_at "ALLIN" | walk_at "SUBALL"))); (case hr => (first | exact subI | (((try dsimp only [lexM, lexO, rdM, rdP, lexD, strD, List.cons_append, List.nil_append])); first | walk_at "ALLIN" | walk_at "SUBALL"))); (case ho => first | walk_at "OFF" | (((try dsimp only [lexM, lexO, rdM, rdP, lexD, strD, List.cons_append, List.nil_append])); walk_at "OFF")); (case hk => first | exact rfl | assumption); (case hd => ktr_room); (case hu => ktr_units)))
              rintro _ _ h5 tk5 ⟨rfl, k5, vo5, hk5, hio5, rfl⟩ F5 N5 K5 Z5
              clear FF NN K5 Z5
              dsimp only [lexM, lexO, rdM, rdP, lexD, strD, List.cons_append, List.nil_append] at N5
              (try dsimp only); (try k_fold)
              (repeat' (first | (k_unfold; (try dsimp only)) | (k_end; wrow_close) | ((((fail_if_success (with_reducible show wpAny _ _ (exec (Stmt.For _ _ _ _ _) _) _ _ _)); (fail_if_success (with_reducible show wpAny _ _ (exec (Stmt.While _ _ _ _) _) _ _ _)); (fail_if_success (with_reducible show Exists _)); (fail_if_success (with_reducible show wpAny _ _ (eval (Expr.ListComp _ _ _ _) _) _ _ _)); (fail_if_success (with_reducible show LCg.CompSrc _ _ _ _ _ _ _ _ _ _ _ _ _ _)); (fail_if_success (with_reducible show LCt.CompSrcT _ _ _ _ _ _ _ _ _ _ _ _ _ _ _)); (fail_if_success ((with_reducible refine stopAt ?gdK ?gdH); (case gdK => exact rfl))))); (try (rename News _ _ _ _ => nN; dsimp only at nN)); walk1) | ((((fail_if_success (with_reducible show wpAny _ _ (exec (Stmt.For _ _ _ _ _) _) _ _ _)); (fail_if_success (with_reducible show wpAny _ _ (exec (Stmt.While _ _ _ _) _) _ _ _)); (fail_if_success (with_reducible show Exists _)); (fail_if_success (with_reducible show wpAny _ _ (eval (Expr.ListComp _ _ _ _) _) _ _ _)); (fail_if_success (with_reducible show LCg.CompSrc _ _ _ _ _ _ _ _ _ _ _ _ _ _)); (fail_if_success (with_reducible show LCt.CompSrcT _ _ _ _ _ _ _ _ _ _ _ _ _ _ _)); (fail_if_success ((with_reducible refine stopAt ?gdK ?gdH); (case gdK => exact rfl))))); dsimp only; walk1) | (leave1; walk_say "STEP leave1"; try dsimp only) | fail "no step"))
              rename News _ _ _ _ => NE
              rename Fr _ _ _ _ => FE
              have hwq := wish_fmod q hZ2
              have hp := ins_perm (x := ((q : Int) + 1 - 1).fmod Z) (k := k5) hpo
              refine kOut hIv ?_
              exact ⟨done.length - (i2 + 1), nsubS hil, o2, _, _, i2 + 1, vo5, _, ko + 1, rfl, ⟨_, FE, rfl⟩, newsSub NE (by (first | exact subI | (((try dsimp only [lexM, lexO, rdM, rdP, lexD, strD, List.cons_append, List.nil_append])); first | walk_at "ALLIN" | walk_at "SUBALL"))), hlo2, hJ2, hio5, ins_sorted hso hk5, by rw [take_snoc hq, List.map_append, List.map_singleton]; rw [hwq] at hp ⊢; exact hp, rfl, hil⟩
            · have hie2 : i2 = done.length := mid_end hn hrl hi1
              clear F2 N1
              (repeat' (first | (k_unfold; (try dsimp only)) | (k_end; wrow_close) | ((((fail_if_success (with_reducible show wpAny _ _ (exec (Stmt.For _ _ _ _ _) _) _ _ _)); (fail_if_success (with_reducible show wpAny _ _ (exec (Stmt.While _ _ _ _) _) _ _ _)); (fail_if_success (with_reducible show Exists _)); (fail_if_success (with_reducible show wpAny _ _ (eval (Expr.ListComp _ _ _ _) _) _ _ _)); (fail_if_success (with_reducible show LCg.CompSrc _ _ _ _ _ _ _ _ _ _ _ _ _ _)); (fail_if_success (with_reducible show LCt.CompSrcT _ _ _ _ _ _ _ _ _ _ _ _ _ _ _)); (fail_if_success ((with_reducible refine stopAt ?gdK ?gdH); (case gdK => exact rfl))))); (try (rename News _ _ _ _ => nN; dsimp only at nN)); walk1) | ((((fail_if_success (with_reducible show wpAny _ _ (exec (Stmt.For _ _ _ _ _) _) _ _ _)); (fail_if_success (with_reducible show wpAny _ _ (exec (Stmt.While _ _ _ _) _) _ _ _)); (fail_if_success (with_reducible show Exists _)); (fail_if_success (with_reducible show wpAny _ _ (eval (Expr.ListComp _ _ _ _) _) _ _ _)); (fail_if_success (with_reducible show LCg.CompSrc _ _ _ _ _ _ _ _ _ _ _ _ _ _)); (fail_if_success (with_reducible show LCt.CompSrcT _ _ _ _ _ _ _ _ _ _ _ _ _ _ _)); (fail_if_success ((with_reducible refine stopAt ?gdK ?gdH); (case gdK => exact rfl))))); dsimp only; walk1) | (leave1; walk_say "STEP leave1"; try dsimp only) | fail "no step"))
              rename News _ _ _ _ => NN
              rename Fr _ _ _ _ => FF
              have hol6 : os.length < 7 := by
                rw [hpo.length_eq, List.length_map]
                exact Nat.lt_of_le_of_lt (List.length_take_le _ _) (Nat.lt_of_le_of_lt hi1 hdl.1)
              have hvo : vo.toArray.size ≤ sizeLine := by
                rw [List.size_toArray, hio.length, sizeLine_eq]; exact Nat.le_of_lt (Nat.lt_trans hol6 (by decide))
              k_here
              k_dflt (refine LCg.ListComp_U (F₀ := by k_asm) (by rfl) (by decide) (by rfl) (by decide) (by rfl) ?_)
              walk1
              k_here
              k_dflt (refine' LCg.CompSrc.ledger ?c1 ?c2 ?c3 ?c4 ?c5 ?_; (case c2 => exact FF); (case c3 => exact NN); (case c4 => k_mem); (case c5 => exact hvo); (case c1 => rfl))
              intro g9
              have hos := os_rg hZ2 hpo
              refine comp_rest (.inr ⟨_, by k_mem, rfl, _, rfl⟩) (fun i ys => CmpG i ((os.take i).map wantP) ys) ⟨[], rfl, rfl⟩ ?_ ?_
              · rintro i3 ys v I3 oI C3 oC D3 m4 h8 tk8 E8 hi3 ⟨l3, rfl, hl3⟩ hv3 hC3 hx3 F8 N8 off8
                obtain ⟨z3, t3, rfl, hz3⟩ := intsGet hio i3 v (by simpa using hv3)
                have hz4 := hos z3 (List.mem_of_getElem? hz3)
                (repeat' (first | (k_unfold; (try dsimp only)) | (k_end; wrow_close) | ((((fail_if_success (with_reducible show wpAny _ _ (exec (Stmt.For _ _ _ _ _) _) _ _ _)); (fail_if_success (with_reducible show wpAny _ _ (exec (Stmt.While _ _ _ _) _) _ _ _)); (fail_if_success (with_reducible show Exists _)); (fail_if_success (with_reducible show wpAny _ _ (eval (Expr.ListComp _ _ _ _) _) _ _ _)); (fail_if_success (with_reducible show LCg.CompSrc _ _ _ _ _ _ _ _ _ _ _ _ _ _)); (fail_if_success (with_reducible show LCt.CompSrcT _ _ _ _ _ _ _ _ _ _ _ _ _ _ _)); (fail_if_success ((with_reducible refine stopAt ?gdK ?gdH); (case gdK => exact rfl))))); (try (rename News _ _ _ _ => nN; dsimp only at nN)); walk1) | ((((fail_if_success (with_reducible show wpAny _ _ (exec (Stmt.For _ _ _ _ _) _) _ _ _)); (fail_if_success (with_reducible show wpAny _ _ (exec (Stmt.While _ _ _ _) _) _ _ _)); (fail_if_success (with_reducible show Exists _)); (fail_if_success (with_reducible show wpAny _ _ (eval (Expr.ListComp _ _ _ _) _) _ _ _)); (fail_if_success (with_reducible show LCg.CompSrc _ _ _ _ _ _ _ _ _ _ _ _ _ _)); (fail_if_success (with_reducible show LCt.CompSrcT _ _ _ _ _ _ _ _ _ _ _ _ _ _ _)); (fail_if_success ((with_reducible refine stopAt ?gdK ?gdH); (case gdK => exact rfl))))); dsimp only; walk1) | (leave1; walk_say "STEP leave1"; try dsimp only) | fail "no step"))
                exact ⟨_, _, rfl, by assumption, by assumption, l3 ++ [(_, _)], strSnoc l3 _ _, by rw [List.map_append, hl3, take_snoc hz3, List.map_append]; rfl⟩
              · intro ys9 ⟨l9, hy9, hl9⟩
                walk_at "FinE"
                have hol2 : vo.toArray.size = os.length := hio.length
                rw [hol2, List.take_length] at hl9
                (repeat' (first | (k_unfold; (try dsimp only)) | (k_end; wrow_close) | ((((fail_if_success (with_reducible show wpAny _ _ (exec (Stmt.For _ _ _ _ _) _) _ _ _)); (fail_if_success (with_reducible show wpAny _ _ (exec (Stmt.While _ _ _ _) _) _ _ _)); (fail_if_success (with_reducible show Exists _)); (fail_if_success (with_reducible show wpAny _ _ (eval (Expr.ListComp _ _ _ _) _) _ _ _)); (fail_if_success (with_reducible show LCg.CompSrc _ _ _ _ _ _ _ _ _ _ _ _ _ _)); (fail_if_success (with_reducible show LCt.CompSrcT _ _ _ _ _ _ _ _ _ _ _ _ _ _ _)); (fail_if_success ((with_reducible refine stopAt ?gdK ?gdH); (case gdK => exact rfl))))); (try (rename News _ _ _ _ => nN; dsimp only at nN)); walk1) | ((((fail_if_success (with_reducible show wpAny _ _ (exec (Stmt.For _ _ _ _ _) _) _ _ _)); (fail_if_success (with_reducible show wpAny _ _ (exec (Stmt.While _ _ _ _) _) _ _ _)); (fail_if_success (with_reducible show Exists _)); (fail_if_success (with_reducible show wpAny _ _ (eval (Expr.ListComp _ _ _ _) _) _ _ _)); (fail_if_success (with_reducible show LCg.CompSrc _ _ _ _ _ _ _ _ _ _ _ _ _ _)); (fail_if_success (with_reducible show LCt.CompSrcT _ _ _ _ _ _ _ _ _ _ _ _ _ _ _)); (fail_if_success ((with_reducible refine stopAt ?gdK ?gdH); (case gdK => exact rfl))))); dsimp only; walk1) | (leave1; walk_say "STEP leave1"; try dsimp only) | fail "no step"))
                rename News _ _ _ _ => NN
                rename Fr _ _ _ _ => FF
                have hol3 : (os.map wantP).length ≤ 100 := by rw [List.length_map]; exact Nat.le_of_lt (Nat.lt_trans hol6 (by decide))
                have hw3 := wantP_small hos
                k_here
                k_dflt (refine' joinS ?k1 (.head _) hy9 hl9 hw3 hol3 (by decide) ?_; (case k1 => exact NN); k_whole)
                intro tw kw hwl
                generalize hWJ : Txt.join (Str.ofString "") (os.map wantP) = WJ at *
                (try dsimp only); (try k_fold)
                --X{
                (repeat' (first | (k_unfold; (try dsimp only)) | (k_end; wrow_close) | ((((fail_if_success (with_reducible show wpAny _ _ (exec (Stmt.For _ _ _ _ _) _) _ _ _)); (fail_if_success (with_reducible show wpAny _ _ (exec (Stmt.While _ _ _ _) _) _ _ _)); (fail_if_success (with_reducible show Exists _)); (fail_if_success (with_reducible show wpAny _ _ (eval (Expr.ListComp _ _ _ _) _) _ _ _)); (fail_if_success (with_reducible show LCg.CompSrc _ _ _ _ _ _ _ _ _ _ _ _ _ _)); (fail_if_success (with_reducible show LCt.CompSrcT _ _ _ _ _ _ _ _ _ _ _ _ _ _ _)); (fail_if_success ((with_reducible refine stopAt ?gdK ?gdH); (case gdK => exact rfl))))); (try (rename News _ _ _ _ => nN; dsimp only at nN)); walk1) | ((((fail_if_success (with_reducible show wpAny _ _ (exec (Stmt.For _ _ _ _ _) _) _ _ _)); (fail_if_success (with_reducible show wpAny _ _ (exec (Stmt.While _ _ _ _) _) _ _ _)); (fail_if_success (with_reducible show Exists _)); (fail_if_success (with_reducible show wpAny _ _ (eval (Expr.ListComp _ _ _ _) _) _ _ _)); (fail_if_success (with_reducible show LCg.CompSrc _ _ _ _ _ _ _ _ _ _ _ _ _ _)); (fail_if_success (with_reducible show LCt.CompSrcT _ _ _ _ _ _ _ _ _ _ _ _ _ _ _)); (fail_if_success ((with_reducible refine stopAt ?gdK ?gdH); (case gdK => exact rfl))))); dsimp only; walk1) | (leave1; walk_say "STEP leave1"; try dsimp only) | fail "no step"))
                rename News _ _ _ _ => NN
                rename Fr _ _ _ _ => FF
                k_here
                k_dflt (refine LCg.ListComp_U (F₀ := by k_asm) (by rfl) (by decide) (by rfl) (by decide) (by rfl) ?_)
                (repeat' (first | (k_unfold; (try dsimp only)) | (k_end; wrow_close) | ((((fail_if_success (with_reducible show wpAny _ _ (exec (Stmt.For _ _ _ _ _) _) _ _ _)); (fail_if_success (with_reducible show wpAny _ _ (exec (Stmt.While _ _ _ _) _) _ _ _)); (fail_if_success (with_reducible show Exists _)); (fail_if_success (with_reducible show wpAny _ _ (eval (Expr.ListComp _ _ _ _) _) _ _ _)); (fail_if_success (with_reducible show LCg.CompSrc _ _ _ _ _ _ _ _ _ _ _ _ _ _)); (fail_if_success (with_reducible show LCt.CompSrcT _ _ _ _ _ _ _ _ _ _ _ _ _ _ _)); (fail_if_success ((with_reducible refine stopAt ?gdK ?gdH); (case gdK => exact rfl))))); (try (rename News _ _ _ _ => nN; dsimp only at nN)); walk1) | ((((fail_if_success (with_reducible show wpAny _ _ (exec (Stmt.For _ _ _ _ _) _) _ _ _)); (fail_if_success (with_reducible show wpAny _ _ (exec (Stmt.While _ _ _ _) _) _ _ _)); (fail_if_success (with_reducible show Exists _)); (fail_if_success (with_reducible show wpAny _ _ (eval (Expr.ListComp _ _ _ _) _) _ _ _)); (fail_if_success (with_reducible show LCg.CompSrc _ _ _ _ _ _ _ _ _ _ _ _ _ _)); (fail_if_success (with_reducible show LCt.CompSrcT _ _ _ _ _ _ _ _ _ _ _ _ _ _ _)); (fail_if_success ((with_reducible refine stopAt ?gdK ?gdH); (case gdK => exact rfl))))); dsimp only; walk1) | (leave1; walk_say "STEP leave1"; try dsimp only) | fail "no step"))
                rename News _ _ _ _ => NN
                rename Fr _ _ _ _ => FF
                k_here
                have hZn := (z_n hZ2).1
                k_dflt (refine' LCg.CompSrc.range (n := (Z - 1).toNat) ?c1 ?c2 ?c3 ?c4 ?c5 ?c6 ?c7 ?_; (case c2 => exact FF); (case c3 => exact NN); (case c4 => assumption); (case c5 => exact small_one (by omega) (by omega) (by omega) (by omega)); (case c6 => (rw [rangeSize_one]; split <;> omega)); (case c7 => (rw [sizeLine_eq]; omega)); (case c1 => rfl))
                intro g10
                refine comp_rest trivial (fun i ys => CmpG i ((rangeKs 0 i).map stairP) ys) ⟨[], rfl, rfl⟩ ?_ ?_
                · rintro i3 ys v I3 oI C3 oC D3 m4 h8 tk8 E8 hi3 ⟨l3, rfl, hl3⟩ ⟨t3, rfl⟩ hC3 hx3 F8 N8 off8
                  have hz4 : 0 ≤ (0 : Int) + (i3 : Int) ∧ (0 : Int) + (i3 : Int) < 100 := by omega
                  generalize hz5 : (0 : Int) + (i3 : Int) = z5 at *
                  (repeat' (first | (k_unfold; (try dsimp only)) | (k_end; wrow_close) | ((((fail_if_success (with_reducible show wpAny _ _ (exec (Stmt.For _ _ _ _ _) _) _ _ _)); (fail_if_success (with_reducible show wpAny _ _ (exec (Stmt.While _ _ _ _) _) _ _ _)); (fail_if_success (with_reducible show Exists _)); (fail_if_success (with_reducible show wpAny _ _ (eval (Expr.ListComp _ _ _ _) _) _ _ _)); (fail_if_success (with_reducible show LCg.CompSrc _ _ _ _ _ _ _ _ _ _ _ _ _ _)); (fail_if_success (with_reducible show LCt.CompSrcT _ _ _ _ _ _ _ _ _ _ _ _ _ _ _)); (fail_if_success ((with_reducible refine stopAt ?gdK ?gdH); (case gdK => exact rfl))))); (try (rename News _ _ _ _ => nN; dsimp only at nN)); walk1) | ((((fail_if_success (with_reducible show wpAny _ _ (exec (Stmt.For _ _ _ _ _) _) _ _ _)); (fail_if_success (with_reducible show wpAny _ _ (exec (Stmt.While _ _ _ _) _) _ _ _)); (fail_if_success (with_reducible show Exists _)); (fail_if_success (with_reducible show wpAny _ _ (eval (Expr.ListComp _ _ _ _) _) _ _ _)); (fail_if_success (with_reducible show LCg.CompSrc _ _ _ _ _ _ _ _ _ _ _ _ _ _)); (fail_if_success (with_reducible show LCt.CompSrcT _ _ _ _ _ _ _ _ _ _ _ _ _ _ _)); (fail_if_success ((with_reducible refine stopAt ?gdK ?gdH); (case gdK => exact rfl))))); dsimp only; walk1) | (leave1; walk_say "STEP leave1"; try dsimp only) | fail "no step"))
                  exact ⟨_, _, rfl, by assumption, by assumption, l3 ++ [(_, _)], strSnoc l3 _ _, by rw [List.map_append, hl3, rangeKs_snoc, hz5, List.map_append]; rfl⟩
                · intro ys10 ⟨l10, hy10, hl10⟩
                  walk_at "FinE"
                  (repeat' (first | (k_unfold; (try dsimp only)) | (k_end; wrow_close) | ((((fail_if_success (with_reducible show wpAny _ _ (exec (Stmt.For _ _ _ _ _) _) _ _ _)); (fail_if_success (with_reducible show wpAny _ _ (exec (Stmt.While _ _ _ _) _) _ _ _)); (fail_if_success (with_reducible show Exists _)); (fail_if_success (with_reducible show wpAny _ _ (eval (Expr.ListComp _ _ _ _) _) _ _ _)); (fail_if_success (with_reducible show LCg.CompSrc _ _ _ _ _ _ _ _ _ _ _ _ _ _)); (fail_if_success (with_reducible show LCt.CompSrcT _ _ _ _ _ _ _ _ _ _ _ _ _ _ _)); (fail_if_success ((with_reducible refine stopAt ?gdK ?gdH); (case gdK => exact rfl))))); (try (rename News _ _ _ _ => nN; dsimp only at nN)); walk1) | ((((fail_if_success (with_reducible show wpAny _ _ (exec (Stmt.For _ _ _ _ _) _) _ _ _)); (fail_if_success (with_reducible show wpAny _ _ (exec (Stmt.While _ _ _ _) _) _ _ _)); (fail_if_success (with_reducible show Exists _)); (fail_if_success (with_reducible show wpAny _ _ (eval (Expr.ListComp _ _ _ _) _) _ _ _)); (fail_if_success (with_reducible show LCg.CompSrc _ _ _ _ _ _ _ _ _ _ _ _ _ _)); (fail_if_success (with_reducible show LCt.CompSrcT _ _ _ _ _ _ _ _ _ _ _ _ _ _ _)); (fail_if_success ((with_reducible refine stopAt ?gdK ?gdH); (case gdK => exact rfl))))); dsimp only; walk1) | (leave1; walk_say "STEP leave1"; try dsimp only) | fail "no step"))
                  rename News _ _ _ _ => NN
                  rename Fr _ _ _ _ => FF
                  have hol4 := (stairP_small hZ2).1
                  have hw4 := (stairP_small hZ2).2
                  k_here
                  k_dflt (refine' joinS ?k1 (.head _) hy10 hl10 hw4 hol4 (by decide) ?_; (case k1 => exact NN); k_whole)
                  intro tw2 kw2 hwl2
                  generalize hWJ2 : Txt.join (Str.ofString "") ((rangeKs 0 (Z - 1).toNat).map stairP) = WJ2 at *
                  (try dsimp only); (try k_fold)
                  (repeat' (first | (k_unfold; (try dsimp only)) | (k_end; wrow_close) | ((((fail_if_success (with_reducible show wpAny _ _ (exec (Stmt.For _ _ _ _ _) _) _ _ _)); (fail_if_success (with_reducible show wpAny _ _ (exec (Stmt.While _ _ _ _) _) _ _ _)); (fail_if_success (with_reducible show Exists _)); (fail_if_success (with_reducible show wpAny _ _ (eval (Expr.ListComp _ _ _ _) _) _ _ _)); (fail_if_success (with_reducible show LCg.CompSrc _ _ _ _ _ _ _ _ _ _ _ _ _ _)); (fail_if_success (with_reducible show LCt.CompSrcT _ _ _ _ _ _ _ _ _ _ _ _ _ _ _)); (fail_if_success ((with_reducible refine stopAt ?gdK ?gdH); (case gdK => exact rfl))))); (try (rename News _ _ _ _ => nN; dsimp only at nN)); walk1) | ((((fail_if_success (with_reducible show wpAny _ _ (exec (Stmt.For _ _ _ _ _) _) _ _ _)); (fail_if_success (with_reducible show wpAny _ _ (exec (Stmt.While _ _ _ _) _) _ _ _)); (fail_if_success (with_reducible show Exists _)); (fail_if_success (with_reducible show wpAny _ _ (eval (Expr.ListComp _ _ _ _) _) _ _ _)); (fail_if_success (with_reducible show LCg.CompSrc _ _ _ _ _ _ _ _ _ _ _ _ _ _)); (fail_if_success (with_reducible show LCt.CompSrcT _ _ _ _ _ _ _ _ _ _ _ _ _ _ _)); (fail_if_success ((with_reducible refine stopAt ?gdK ?gdH); (case gdK => exact rfl))))); dsimp only; walk1) | (leave1; walk_say "STEP leave1"; try dsimp only) | fail "no step"))
                  rename News _ _ _ _ => NN
                  rename Fr _ _ _ _ => FF
                  obtain ⟨pp, rfl, hp0, hp1, hpc, hpf, hf0, hf1⟩ := JJ.done hZ2 hjf
                  obtain ⟨tq, rfl⟩ := one_int hif
                  rw [resid_rot, phi_rot] at hpf
                  have hpc2 := cnt_unrot hpc
                  have hWr := resid_rg hZ2 done
                  have hpo2 : os.Perm (resid Z done) := by rw [hie2, List.take_length] at hpo; exact hpo
                  have hrl3 : ((resid Z done).length : Int) + 1 = Z := by rw [resid, List.length_map, hZ]
                  have hfit := fits_last os (resid Z done) hso hpo2 hWr hrl3 ⟨hp0, hp1⟩ hpc2
                  have hwr := want_rg hpo2 hWr hrl3
                  obtain ⟨p0, mid, w1, w2, w3, w4, w5, w6, w7, w8⟩ := want_em (z_n hZ2).2 os hwr.1 hwr.2
                  rw [hfit] at w8
                  unfold WantS at w1 w2 w6
                  unfold StairS at w4 w7 w8
                  have w9 := stairs_end (Z - 1).toNat
                  unfold StairS at w9
                  rw [hWJ] at w1 w2 w6
                  rw [hWJ2] at w4 w7 w8 w9
                  have hcall := fun (tx ty : Tok) => (em_call w (WJ ++ bar) (WJ2 ++ bar) tx ty w6 w7 p0 bar mid w2 w1 w3 (by decide) w9 w4 w5).mono (Post' := EmP (decide (pp = Z - 1))) (fun v post h => ⟨by rw [h.1, w8], h.2⟩)
                  generalize hbb : decide (pp = Z - 1) = bb at hcall
                  refine' Call.use (hcall _ _) (rest := (RL, W.listOf vsR.toArray kR) :: (FL, W.listOf [Value.int pp tq].toArray kff) :: (126, tabObj (tabFull a.RC)) :: lexM w a (1 + (done.length : Int)) tl5 [] kb5 pl1 tp5) ?B ?F ?X ?C ?N ?T ?hs ?hr ?ho ?hk ?hd ?hu ?_
                  ((case B => assumption); (case F => assumption); (case X => assumption); (case C => assumption); (case N => assumption); (case T => assumption); (case hs => exact fun q hq => nomatch hq); (case hr => ((first | exact subI | (((try dsimp only [lexM, lexO, rdM, rdP, lexD, strD, List.cons_append, List.nil_append])); first | walk_at "ALLIN" | walk_at "SUBALL")))); (case ho => (intro q _; exact List.not_mem_nil)); (case hk => first | exact rfl | assumption); (case hd => ktr_room); (case hu => ktr_units))
                  rintro _ _ h6 tk6 ⟨rfl, rfl⟩ F6 N6 K6 Z6
                  clear FF NN K6 Z6
                  dsimp only [lexM, lexO, rdM, rdP, lexD, strD, List.cons_append, List.nil_append] at N6
                  (try dsimp only); (try k_fold)
                  (repeat' (first | (k_unfold; (try dsimp only)) | (k_end; wrow_close) | ((((fail_if_success (with_reducible show wpAny _ _ (exec (Stmt.For _ _ _ _ _) _) _ _ _)); (fail_if_success (with_reducible show wpAny _ _ (exec (Stmt.While _ _ _ _) _) _ _ _)); (fail_if_success (with_reducible show Exists _)); (fail_if_success (with_reducible show wpAny _ _ (eval (Expr.ListComp _ _ _ _) _) _ _ _)); (fail_if_success (with_reducible show LCg.CompSrc _ _ _ _ _ _ _ _ _ _ _ _ _ _)); (fail_if_success (with_reducible show LCt.CompSrcT _ _ _ _ _ _ _ _ _ _ _ _ _ _ _)); (fail_if_success ((with_reducible refine stopAt ?gdK ?gdH); (case gdK => exact rfl))))); (try (rename News _ _ _ _ => nN; dsimp only at nN)); walk1) | ((((fail_if_success (with_reducible show wpAny _ _ (exec (Stmt.For _ _ _ _ _) _) _ _ _)); (fail_if_success (with_reducible show wpAny _ _ (exec (Stmt.While _ _ _ _) _) _ _ _)); (fail_if_success (with_reducible show Exists _)); (fail_if_success (with_reducible show wpAny _ _ (eval (Expr.ListComp _ _ _ _) _) _ _ _)); (fail_if_success (with_reducible show LCg.CompSrc _ _ _ _ _ _ _ _ _ _ _ _ _ _)); (fail_if_success (with_reducible show LCt.CompSrcT _ _ _ _ _ _ _ _ _ _ _ _ _ _ _)); (fail_if_success ((with_reducible refine stopAt ?gdK ?gdH); (case gdK => exact rfl))))); dsimp only; walk1) | (leave1; walk_say "STEP leave1"; try dsimp only) | fail "no step"))
                  rename News h₀ _ _ _ => NE
                  rename News g' _ _ _ => NG
                  rw [show (bb == true) = bb by cases bb <;> rfl, show (bb == false) = !bb by cases bb <;> rfl] at NE NG
                  subst hbb
                  have hzz : 1 + (done.length : Int) = Z := by rw [hZ, Int.add_comm]
                  rw [hzz] at NE NG
                  refine hret _ _ _ _ ⟨⟨_, RL, FL, vsR, kR, kff, 0, pp, far, tq, tl5, tff⟩, [(126, tabObj (tabFull a.RC)), (a.RC, a.oc)], rfl, .inr ⟨a.RC, a.oc, hoc, hRC, rfl⟩, (fun b hb => by simpa using hTBa b hb), hrows, ⟨hp0, hp1⟩, hpc2, hpf, rfl⟩ (by assumption) (newsSub NE ?s1) (Keep.fr Kg (by assumption)) (Keep.fresh Kg (newsSub NG ?s2))
                  · (first | exact subI | (((try dsimp only [lexM, lexO, rdM, rdP, lexD, strD, List.cons_append, List.nil_append])); first | walk_at "ALLIN" | walk_at "SUBALL"))
                  · (first | exact subI | (((try dsimp only [lexM, lexO, rdM, rdP, lexD, strD, List.cons_append, List.nil_append])); first | walk_at "ALLIN" | walk_at "SUBALL"))
                --X}
    | cons q r =>
      simp only [hdD] at F2
      have hxl := dots_len q
      have hxn := dots_ne q
      generalize hdx : dots (q + 1) = xx at *
      (repeat' (first | (k_unfold; (try dsimp only)) | (k_end; wrow_close) | ((((fail_if_success (with_reducible show wpAny _ _ (exec (Stmt.For _ _ _ _ _) _) _ _ _)); (fail_if_success (with_reducible show wpAny _ _ (exec (Stmt.While _ _ _ _) _) _ _ _)); (fail_if_success (with_reducible show Exists _)); (fail_if_success (with_reducible show wpAny _ _ (eval (Expr.ListComp _ _ _ _) _) _ _ _)); (fail_if_success (with_reducible show LCg.CompSrc _ _ _ _ _ _ _ _ _ _ _ _ _ _)); (fail_if_success (with_reducible show LCt.CompSrcT _ _ _ _ _ _ _ _ _ _ _ _ _ _ _)); (fail_if_success ((with_reducible refine stopAt ?gdK ?gdH); (case gdK => exact rfl))))); (try (rename News _ _ _ _ => nN; dsimp only at nN)); walk1) | ((((fail_if_success (with_reducible show wpAny _ _ (exec (Stmt.For _ _ _ _ _) _) _ _ _)); (fail_if_success (with_reducible show wpAny _ _ (exec (Stmt.While _ _ _ _) _) _ _ _)); (fail_if_success (with_reducible show Exists _)); (fail_if_success (with_reducible show wpAny _ _ (eval (Expr.ListComp _ _ _ _) _) _ _ _)); (fail_if_success (with_reducible show LCg.CompSrc _ _ _ _ _ _ _ _ _ _ _ _ _ _)); (fail_if_success (with_reducible show LCt.CompSrcT _ _ _ _ _ _ _ _ _ _ _ _ _ _ _)); (fail_if_success ((with_reducible refine stopAt ?gdK ?gdH); (case gdK => exact rfl))))); dsimp only; walk1) | (leave1; walk_say "STEP leave1"; try dsimp only) | fail "no step"))
      rename News _ _ _ _ => NN
      rename Fr _ _ _ _ => FF
      refine' Call.use (rd_call w a ok hread (1 + (done.length : Int)) tl1 kb pl1 tp1 1 r (fun d h => Nat.lt_of_lt_of_le (hd9 d (hdc ▸ List.mem_append_right _ (.tail _ h))) (by decide)) hat1) (rest := [(126, tabObj (tabFull a.RC)), (RL, W.listOf (vsR.toArray.push (.str xx tr)) (kR + 1))]) ?B ?F ?X ?C ?N ?T ?hs ?hr ?ho ?hk ?hd ?hu ?_
      (((case B => assumption); (case F => assumption); (case X => assumption); (case C => assumption); (case N => assumption); (case T => assumption); (case hs => (first | exact subI | (((try dsimp only [lexM, lexO, rdM, rdP, lexD, strD, List.cons_append, List.nil_append])); first | walk_at "ALLIN" | walk_at "SUBALL"))); (case hr => (first | exact subI | (((try dsimp only [lexM, lexO, rdM, rdP, lexD, strD, List.cons_append, List.nil_append])); first | walk_at "ALLIN" | walk_at "SUBALL"))); (case ho => first | walk_at "OFF" | (((try dsimp only [lexM, lexO, rdM, rdP, lexD, strD, List.cons_append, List.nil_append])); walk_at "OFF")); (case hk => first | exact rfl | assumption); (case hd => ktr_room); (case hu => ktr_units)))
      rintro _ _ h5 tk5 ⟨t5, tl5, tp5, pl5, rfl, hat5, rfl⟩ F5 N5 K5 Z5
      clear FF NN K5 Z5
      rw [List.push_toArray] at N5
      dsimp only [lexM, lexO, rdM, rdP, lexD, strD, List.cons_append, List.nil_append] at N5
      (try dsimp only); (try k_fold)
      (repeat' (first | (k_unfold; (try dsimp only)) | (k_end; wrow_close) | ((((fail_if_success (with_reducible show wpAny _ _ (exec (Stmt.For _ _ _ _ _) _) _ _ _)); (fail_if_success (with_reducible show wpAny _ _ (exec (Stmt.While _ _ _ _) _) _ _ _)); (fail_if_success (with_reducible show Exists _)); (fail_if_success (with_reducible show wpAny _ _ (eval (Expr.ListComp _ _ _ _) _) _ _ _)); (fail_if_success (with_reducible show LCg.CompSrc _ _ _ _ _ _ _ _ _ _ _ _ _ _)); (fail_if_success (with_reducible show LCt.CompSrcT _ _ _ _ _ _ _ _ _ _ _ _ _ _ _)); (fail_if_success ((with_reducible refine stopAt ?gdK ?gdH); (case gdK => exact rfl))))); (try (rename News _ _ _ _ => nN; dsimp only at nN)); walk1) | ((((fail_if_success (with_reducible show wpAny _ _ (exec (Stmt.For _ _ _ _ _) _) _ _ _)); (fail_if_success (with_reducible show wpAny _ _ (exec (Stmt.While _ _ _ _) _) _ _ _)); (fail_if_success (with_reducible show Exists _)); (fail_if_success (with_reducible show wpAny _ _ (eval (Expr.ListComp _ _ _ _) _) _ _ _)); (fail_if_success (with_reducible show LCg.CompSrc _ _ _ _ _ _ _ _ _ _ _ _ _ _)); (fail_if_success (with_reducible show LCt.CompSrcT _ _ _ _ _ _ _ _ _ _ _ _ _ _ _)); (fail_if_success ((with_reducible refine stopAt ?gdK ?gdH); (case gdK => exact rfl))))); dsimp only; walk1) | (leave1; walk_say "STEP leave1"; try dsimp only) | fail "no step"))
      rename News _ _ _ _ => NE
      rename Fr _ _ _ _ => FE
      subst hdx
      refine kOutW hIv ?_
      exact ⟨r.length, Nat.lt_succ_self _, _, _, done ++ [q], r, vsR ++ [.str (dots (q + 1)) tr], pl5, t5, tl5, tp5, kR + 1, rfl, ⟨_, FE, rfl⟩, newsSub NE (by rw [snoc_len]; (first | exact subI | (((try dsimp only [lexM, lexO, rdM, rdP, lexD, strD, List.cons_append, List.nil_append])); first | walk_at "ALLIN" | walk_at "SUBALL"))), hrows.snoc q tr, by rw [List.append_assoc]; exact hdc, hat5, rfl⟩
end Mine

-- part Ts
namespace Mine
theorem turn_call2 (w : World) (x : Str) (tx : Tok) (Z : Int) (tz : Tok) (fI : Int) (fst : Nat) (hfI : fI = (fst : Int)) (tf : Tok) (ds : List Nat) (TB : List (Addr × Obj)) (hT : TabSt TB) (hx : x.cps.toList = rowsD ds) (hZ : Z = (ds.length : Int) + 1) (hZ2 : 4 ≤ Z ∧ Z ≤ 7) (hf : fst < ds.length) (hd9 : ∀ d ∈ ds, d < 100) :
    Call w 12 700 (.ref 150) [.str x tx, .int Z tz, .int fI tf] TB (TurnP Z ds TB) := by
  subst hfI
  exact turn_call w x tx Z tz fst tf ds TB hT hx hZ hZ2 hf hd9
/-- the turns told -/
inductive TurnsP (Z : Int) (ws : List Nat) (p0 F0 : Int) (WL : Nat) (vs : List Value) (kw : Nat) (r : Value) (post : List (Addr × Obj)) : Prop
  | mk (TL kT : Nat) (recs : List TRec) (TB' : List (Addr × Obj)) (er : r = .ref TL) (hT : TabSt TB') (hrec : RecsOk Z ws p0 F0 recs) (hrl : recs.length = Z.toNat)
    (ep : post = (TL, W.listOf (recsVal recs).toArray kT) :: (WL, W.listOf vs.toArray kw) :: (TB' ++ recsLed Z recs))
/-- while the turns are told -/
inductive TsI (Z : Int) (tz : Nat) (ws : List Nat) (p0 F0 : Int) (WL TL : Nat) (vs : List Value) (kw : Nat) (s : Shared) (g : Heap) (L : Addr) (J : Addr) (k : Nat) (s1 : Shared) : Prop
  | mk (h1 : Heap) (tk1 i : Nat) (x : Str) (tx kT : Nat) (recs : List TRec) (TB1 : List (Addr × Obj)) (e : s1 = { s with heap := h1, toks := tk1 }) (F : FrAt g L h1 [("wishes", .ref WL), ("size", .int Z tz), ("mail", .str x tx), ("told", .ref TL)])
    (N : News g L h1 ((J, rgI (1 + (i : Int)) (Z - (i : Int))) :: (TL, W.listOf (recsVal recs).toArray kT) :: (WL, W.listOf vs.toArray kw) :: (TB1 ++ recsLed Z recs))) (hT1 : TabSt TB1) (hrec : RecsOk Z ws p0 F0 recs) (hrl : recs.length = i)
    (hTL : ∀ q ∈ recsLed Z recs, q.1 ≠ TL) (ek : k = Z.toNat - i) (hi : i ≤ Z.toNat) (hx : x.cps.toList = rowsT (mrows ws i))
theorem rg_zero (Z : Int) : rgI (1 + ((0 : Nat) : Int)) (Z - ((0 : Nat) : Int)) = rgI 1 (Z + 1 - 1) := by rw [show (1 : Int) + ((0 : Nat) : Int) = 1 by omega, show Z - ((0 : Nat) : Int) = Z + 1 - 1 by omega]
theorem rg_succ (Z : Int) (i : Nat) : (1 : Int) + ((i + 1 : Nat) : Int) = 1 + (i : Int) + 1 ∧ Z - ((i + 1 : Nat) : Int) = Z - (i : Int) - 1 := by omega
theorem ws_lt {ws : List Nat} {Z : Int} (hw : ∀ x ∈ ws, (x : Int) < Z) (hZ2 : 4 ≤ Z ∧ Z ≤ 7) : ∀ x ∈ ws, x < 10 := fun x hx => by have := hw x hx; omega
theorem ws_len {ws : List Nat} {Z : Int} (hZ : (ws.length : Int) + 1 = Z) (hZ2 : 4 ≤ Z ∧ Z ≤ 7) : ws.length < 7 ∧ 0 < ws.length := by omega
theorem z_lt {i : Nat} {Z : Int} (h : 0 < Z - (i : Int)) (hZ2 : 4 ≤ Z ∧ Z ≤ 7) : i < Z.toNat ∧ i < 7 := by omega
theorem z_eq {i : Nat} {Z : Int} (h : Z - (i : Int) ≤ 0) (hi : i ≤ Z.toNat) : i = Z.toNat := by omega
theorem tabOff {TB : List (Addr × Obj)} {g h : Heap} {L : Addr} {WL : Nat} {its : Array Value} {kw : Nat} {l : List (Addr × Obj)} (hT : TabSt TB) (NN : News g L h l) (h1 : (WL, W.listOf its kw) ∈ l) (h2 : ∀ q ∈ TB, q ∈ l) : ∀ q ∈ TB, q.1 ∉ [(WL, W.listOf its kw)].map (·.1) := by
  intro q hq hm
  have h1 := newsNe NN NN (a := WL) (b := q.1) h1 (h2 q hq) (tab_ne_list (hT.isTab q hq) ⟨_, _, rfl⟩)
  simp at hm; exact h1 hm.symm
theorem mrows_ne {ws : List Nat} (h : 0 < ws.length) (i : Nat) : mrows ws i ≠ [] := fun h => by have := mrows_len ws i; rw [h] at this; simp at this; omega
theorem mrows_hd {ws : List Nat} {i : Nat} (hw : ∀ x ∈ ws, x < 10) (hi : i < 7) : ∀ d ∈ ws.map (· + (i + 1)), d < 100 := by
  intro d hd
  obtain ⟨x, hx, rfl⟩ := List.mem_map.mp hd
  have := hw x hx
  omega
theorem turns_call (w : World) (WL : Nat) (vs : List Value) (ws : List Nat) (kw : Nat) (Z : Int) (tz : Tok) (TB : List (Addr × Obj)) (hT : TabSt TB) (hi : IntsAre vs (toI ws)) (hZ : (ws.length : Int) + 1 = Z) (hZ2 : 4 ≤ Z ∧ Z ≤ 7) (hw : ∀ x ∈ ws, (x : Int) < Z)
    (p0 F0 : Int) (h0 : 0 ≤ p0 ∧ p0 < Z) (hlo : leftOk Z (toI ws) p0 = true) (hF : 2 * (F0 + phiSum Z p0 (toI ws)) = (Z - 1) * (Z - 2)) :
    Call w 14 900 (.ref 157) [.ref WL, .int Z tz] ((WL, W.listOf vs.toArray kw) :: TB) (TurnsP Z ws p0 F0 WL vs kw) := by
  unfold Call
  intro p loose mean mg mb dp un gd cn cs b ccd cl outer A₀ base h₀ L m s Q E B F X C N T hcs hd hu hret
  ((k_dflt (refine' code_defK ?k1 ?k2 ?k3 ?kC ?k4 ?k5 ?kA ?kF ?kK ?k6 ?k7 ?k8 ?k9 ?kB ?_ ?c2 ?c3 ?c4 ?c5; (case kA => exact rfl); (case kF => exact rfl); (case kK => assumption); (case k1 => k_asm); (case k2 => k_asm); (case k3 => k_asm); (case kC => k_asm); (case k4 => k_asm); (case k5 => k_asm); (case k6 => k_is); (case k7 => k_is); (case k8 => k_room); (case k9 => first | exact BindsTo.of_eq rfl | (refine' kp_binds ?kx ?ke; (case kx => k_in); (case ke => exact fun _ => rfl))); (case c5 => decide); (case kB => exact locs rfl); (case c2 => exact rfl); (case c3 => exact rfl); (case c4 => exact rfl); k_whole)))
  intro g' L' h' FG' F' N' B' X' T' C' Kg l1
  change Fr g' L' h' (fun y => List.lookup y [(Str.ofString "size", Value.int Z tz), (Str.ofString "wishes", Value.ref WL)]) at F'
  (try dsimp only); (try k_fold)
  (repeat' (first | (k_unfold; (try dsimp only)) | (k_end; wrow_close) | ((((fail_if_success (with_reducible show wpAny _ _ (exec (Stmt.For _ _ _ _ _) _) _ _ _)); (fail_if_success (with_reducible show wpAny _ _ (exec (Stmt.While _ _ _ _) _) _ _ _)); (fail_if_success (with_reducible show Exists _)); (fail_if_success (with_reducible show wpAny _ _ (eval (Expr.ListComp _ _ _ _) _) _ _ _)); (fail_if_success (with_reducible show LCg.CompSrc _ _ _ _ _ _ _ _ _ _ _ _ _ _)); (fail_if_success (with_reducible show LCt.CompSrcT _ _ _ _ _ _ _ _ _ _ _ _ _ _ _)); (fail_if_success ((with_reducible refine stopAt ?gdK ?gdH); (case gdK => exact rfl))))); (try (rename News _ _ _ _ => nN; dsimp only at nN)); walk1) | ((((fail_if_success (with_reducible show wpAny _ _ (exec (Stmt.For _ _ _ _ _) _) _ _ _)); (fail_if_success (with_reducible show wpAny _ _ (exec (Stmt.While _ _ _ _) _) _ _ _)); (fail_if_success (with_reducible show Exists _)); (fail_if_success (with_reducible show wpAny _ _ (eval (Expr.ListComp _ _ _ _) _) _ _ _)); (fail_if_success (with_reducible show LCg.CompSrc _ _ _ _ _ _ _ _ _ _ _ _ _ _)); (fail_if_success (with_reducible show LCt.CompSrcT _ _ _ _ _ _ _ _ _ _ _ _ _ _ _)); (fail_if_success ((with_reducible refine stopAt ?gdK ?gdH); (case gdK => exact rfl))))); dsimp only; walk1) | (leave1; walk_say "STEP leave1"; try dsimp only) | fail "no step"))
  rename News _ _ _ _ => NN
  rename Fr _ _ _ _ => FF
  have hw10 := ws_lt hw hZ2
  have hws := ws_len hZ hZ2
  have hoTB := tabOff hT NN (.head _) (fun q hq => .tail _ hq)
  refine' Call.use (mail_call w WL vs ws kw hi (fun x hx => Nat.lt_trans (hw10 x hx) (by decide)) (Nat.lt_trans hws.1 (by decide))) (rest := TB) ?B ?F ?X ?C ?N ?T ?hs ?hr ?ho ?hk ?hd ?hu ?_
  ((case B => assumption); (case F => assumption); (case X => assumption); (case C => assumption); (case N => assumption); (case T => assumption); (case hs => exact fun q hq => .head _ |> fun h => List.mem_singleton.mp hq ▸ h); (case hr => exact fun q hq => .tail _ hq); (case ho => exact hoTB); (case hk => first | exact rfl | assumption); (case hd => ktr_room); (case hu => ktr_units))
  rintro _ _ h2 tk2 ⟨x0, tx0, rfl, hx0, rfl⟩ F2 N2 K2 Z2
  clear FF NN
  simp only [List.cons_append, List.nil_append] at N2
  (try dsimp only); (try k_fold)
  (repeat' (first | (k_unfold; (try dsimp only)) | (k_end; wrow_close) | ((((fail_if_success (with_reducible show wpAny _ _ (exec (Stmt.For _ _ _ _ _) _) _ _ _)); (fail_if_success (with_reducible show wpAny _ _ (exec (Stmt.While _ _ _ _) _) _ _ _)); (fail_if_success (with_reducible show Exists _)); (fail_if_success (with_reducible show wpAny _ _ (eval (Expr.ListComp _ _ _ _) _) _ _ _)); (fail_if_success (with_reducible show LCg.CompSrc _ _ _ _ _ _ _ _ _ _ _ _ _ _)); (fail_if_success (with_reducible show LCt.CompSrcT _ _ _ _ _ _ _ _ _ _ _ _ _ _ _)); (fail_if_success ((with_reducible refine stopAt ?gdK ?gdH); (case gdK => exact rfl))))); (try (rename News _ _ _ _ => nN; dsimp only at nN)); walk1) | ((((fail_if_success (with_reducible show wpAny _ _ (exec (Stmt.For _ _ _ _ _) _) _ _ _)); (fail_if_success (with_reducible show wpAny _ _ (exec (Stmt.While _ _ _ _) _) _ _ _)); (fail_if_success (with_reducible show Exists _)); (fail_if_success (with_reducible show wpAny _ _ (eval (Expr.ListComp _ _ _ _) _) _ _ _)); (fail_if_success (with_reducible show LCg.CompSrc _ _ _ _ _ _ _ _ _ _ _ _ _ _)); (fail_if_success (with_reducible show LCt.CompSrcT _ _ _ _ _ _ _ _ _ _ _ _ _ _ _)); (fail_if_success ((with_reducible refine stopAt ?gdK ?gdH); (case gdK => exact rfl))))); dsimp only; walk1) | (leave1; walk_say "STEP leave1"; try dsimp only) | fail "no step"))
  rename_i TL _ lt1 _ FF NN
  refine for_invO (TsI Z tz ws p0 F0 WL TL vs kw s g' L') (fun Iv hIv => ?_) (fun Iv hIv => ?_)
  · (repeat' (first | (k_unfold; (try dsimp only)) | (k_end; wrow_close) | ((((fail_if_success (with_reducible show wpAny _ _ (exec (Stmt.For _ _ _ _ _) _) _ _ _)); (fail_if_success (with_reducible show wpAny _ _ (exec (Stmt.While _ _ _ _) _) _ _ _)); (fail_if_success (with_reducible show Exists _)); (fail_if_success (with_reducible show wpAny _ _ (eval (Expr.ListComp _ _ _ _) _) _ _ _)); (fail_if_success (with_reducible show LCg.CompSrc _ _ _ _ _ _ _ _ _ _ _ _ _ _)); (fail_if_success (with_reducible show LCt.CompSrcT _ _ _ _ _ _ _ _ _ _ _ _ _ _ _)); (fail_if_success ((with_reducible refine stopAt ?gdK ?gdH); (case gdK => exact rfl))))); (try (rename News _ _ _ _ => nN; dsimp only at nN)); walk1) | ((((fail_if_success (with_reducible show wpAny _ _ (exec (Stmt.For _ _ _ _ _) _) _ _ _)); (fail_if_success (with_reducible show wpAny _ _ (exec (Stmt.While _ _ _ _) _) _ _ _)); (fail_if_success (with_reducible show Exists _)); (fail_if_success (with_reducible show wpAny _ _ (eval (Expr.ListComp _ _ _ _) _) _ _ _)); (fail_if_success (with_reducible show LCg.CompSrc _ _ _ _ _ _ _ _ _ _ _ _ _ _)); (fail_if_success (with_reducible show LCt.CompSrcT _ _ _ _ _ _ _ _ _ _ _ _ _ _ _)); (fail_if_success ((with_reducible refine stopAt ?gdK ?gdH); (case gdK => exact rfl))))); dsimp only; walk1) | (leave1; walk_say "STEP leave1"; try dsimp only) | fail "no step"))
    rename_i IT1 h9 FE NE lt9
    refine kOut0 hIv ?_
    exact ⟨IT1, Z.toNat, rfl, _, _, 0, x0, tx0, 0, [], TB, rfl, ⟨_, FE, rfl⟩, newsSub NE (fun q hq => by rw [rg_zero] at hq; simpa [recsVal, recsLed] using hq), hT, fun k r hr => by simp at hr, rfl, fun q hq => by simp [recsLed] at hq, rfl, Nat.zero_le _, hx0⟩
  · clear NN FF
    rintro J' k s1 ⟨h1, tk1, i, x, tx, kT, recs, TB1, rfl, F1, N1, hT1, hrec, hrl, hTL, rfl, hi1, hx⟩
    refine F1.use fun m1 F2 => ?_
    clear F1
    have hIs : ∀ q ∈ (TL, W.listOf (recsVal recs).toArray kT) :: (WL, W.listOf vs.toArray kw) :: (TB1 ++ recsLed Z recs), IsL q.2 ∨ IsTab q.2 := by
      refine List.forall_mem_cons.mpr ⟨.inl ⟨_, _, rfl⟩, List.forall_mem_cons.mpr ⟨.inl ⟨_, _, rfl⟩, fun q hq => ?_⟩⟩
      rcases List.mem_append.mp hq with h | h
      · exact .inr (hT1.isTab q h)
      · exact .inl (recsLed_isL q h)
    refine range_next rfl F2 N1 (off_rg N1 hIs) (fun hlt h3 F3 N3 => ?_) (fun hle h3 F3 N3 => ?_)
    · clear F2 N1
      (repeat' (first | (k_unfold; (try dsimp only)) | (k_end; wrow_close) | ((((fail_if_success (with_reducible show wpAny _ _ (exec (Stmt.For _ _ _ _ _) _) _ _ _)); (fail_if_success (with_reducible show wpAny _ _ (exec (Stmt.While _ _ _ _) _) _ _ _)); (fail_if_success (with_reducible show Exists _)); (fail_if_success (with_reducible show wpAny _ _ (eval (Expr.ListComp _ _ _ _) _) _ _ _)); (fail_if_success (with_reducible show LCg.CompSrc _ _ _ _ _ _ _ _ _ _ _ _ _ _)); (fail_if_success (with_reducible show LCt.CompSrcT _ _ _ _ _ _ _ _ _ _ _ _ _ _ _)); (fail_if_success ((with_reducible refine stopAt ?gdK ?gdH); (case gdK => exact rfl))))); (try (rename News _ _ _ _ => nN; dsimp only at nN)); walk1) | ((((fail_if_success (with_reducible show wpAny _ _ (exec (Stmt.For _ _ _ _ _) _) _ _ _)); (fail_if_success (with_reducible show wpAny _ _ (exec (Stmt.While _ _ _ _) _) _ _ _)); (fail_if_success (with_reducible show Exists _)); (fail_if_success (with_reducible show wpAny _ _ (eval (Expr.ListComp _ _ _ _) _) _ _ _)); (fail_if_success (with_reducible show LCg.CompSrc _ _ _ _ _ _ _ _ _ _ _ _ _ _)); (fail_if_success (with_reducible show LCt.CompSrcT _ _ _ _ _ _ _ _ _ _ _ _ _ _ _)); (fail_if_success ((with_reducible refine stopAt ?gdK ?gdH); (case gdK => exact rfl))))); dsimp only; walk1) | (leave1; walk_say "STEP leave1"; try dsimp only) | fail "no step"))
      rename News _ _ _ _ => NN
      rename Fr _ _ _ _ => FF
      obtain ⟨hiZ, hi7⟩ := z_lt hlt hZ2
      refine' Call.use (quote_call w x tx (mrows ws i) hx (fun r h => ⟨(mrows_ok ws 10 hw10 i r h).1, (mrows_ok ws 10 hw10 i r h).2.2⟩) (mrows_ne hws.2 i) (mrows_bound ws hw10 (Nat.le_trans (Nat.le_of_lt hws.1) (by decide)) i (Nat.le_trans (Nat.le_of_lt hi7) (by decide))) (by rw [mrows_len]; exact Nat.le_trans (Nat.le_of_lt hws.1) (by decide)))
        (rest := (J', rgI (1 + (i : Int) + 1) (Z - (i : Int) - 1)) :: (TL, W.listOf (recsVal recs).toArray kT) :: (WL, W.listOf vs.toArray kw) :: (TB1 ++ recsLed Z recs)) ?B ?F ?X ?C ?N ?T ?hs ?hr ?ho ?hk ?hd ?hu ?_
      ((case B => assumption); (case F => exact FF); (case X => assumption); (case C => assumption); (case N => exact NN); (case T => assumption); (case hs => exact fun q hq => nomatch hq); (case hr => exact fun q hq => hq); (case ho => (intro q _; exact List.not_mem_nil)); (case hk => first | exact rfl | assumption); (case hd => ktr_room); (case hu => ktr_units))
      rintro _ _ h4 tk4 ⟨y, ty, rfl, hy, rfl⟩ F4 N4 K4 Z4
      clear FF NN
      simp only [List.nil_append] at N4
      (try dsimp only); (try k_fold)
      have hwl : ws.length ≠ 0 := Nat.ne_of_gt hws.2
      have hvl : vs.length = ws.length := hi.length.trans (List.length_map ..)
      have htl : (toI ws).length = ws.length := List.length_map ..
      have htl2 : (0 : Int) < ((toI ws).length : Int) := by rw [htl]; exact Int.natCast_pos.mpr hws.2
      (repeat' (first | (k_unfold; (try dsimp only)) | (k_end; wrow_close) | ((((fail_if_success (with_reducible show wpAny _ _ (exec (Stmt.For _ _ _ _ _) _) _ _ _)); (fail_if_success (with_reducible show wpAny _ _ (exec (Stmt.While _ _ _ _) _) _ _ _)); (fail_if_success (with_reducible show Exists _)); (fail_if_success (with_reducible show wpAny _ _ (eval (Expr.ListComp _ _ _ _) _) _ _ _)); (fail_if_success (with_reducible show LCg.CompSrc _ _ _ _ _ _ _ _ _ _ _ _ _ _)); (fail_if_success (with_reducible show LCt.CompSrcT _ _ _ _ _ _ _ _ _ _ _ _ _ _ _)); (fail_if_success ((with_reducible refine stopAt ?gdK ?gdH); (case gdK => exact rfl))))); (try (rename News _ _ _ _ => nN; dsimp only at nN)); walk1) | ((((fail_if_success (with_reducible show wpAny _ _ (exec (Stmt.For _ _ _ _ _) _) _ _ _)); (fail_if_success (with_reducible show wpAny _ _ (exec (Stmt.While _ _ _ _) _) _ _ _)); (fail_if_success (with_reducible show Exists _)); (fail_if_success (with_reducible show wpAny _ _ (eval (Expr.ListComp _ _ _ _) _) _ _ _)); (fail_if_success (with_reducible show LCg.CompSrc _ _ _ _ _ _ _ _ _ _ _ _ _ _)); (fail_if_success (with_reducible show LCt.CompSrcT _ _ _ _ _ _ _ _ _ _ _ _ _ _ _)); (fail_if_success ((with_reducible refine stopAt ?gdK ?gdH); (case gdK => exact rfl))))); dsimp only; walk1) | (leave1; walk_say "STEP leave1"; try dsimp only) | fail "no step"))
      rename News _ _ _ _ => NN
      rename Fr _ _ _ _ => FF
      have hyD : y.cps.toList = rowsD (ws.map (· + (i + 1))) := by
        rw [hy]
        show rowsT (mrows ws (i + 1)) = _
        rw [mrows_succ]; rfl
      have hoff := off_rg NN (fun q hq => hIs q hq)
      have hmT : ∀ q ∈ TB1, q ∈ (J', rgI (1 + (i : Int) + 1) (Z - (i : Int) - 1)) :: (TL, W.listOf (recsVal recs).toArray kT) :: (WL, W.listOf vs.toArray kw) :: (TB1 ++ recsLed Z recs) := fun q hq => by simp [hq]
      refine' Call.use (turn_call2 w y _ Z tz _ ((1 + i) % ws.length) ?hfI _ (ws.map (· + (i + 1))) TB1 hT1 hyD (by rw [List.length_map]; exact hZ.symm) hZ2 (by rw [List.length_map]; exact Nat.mod_lt _ hws.2) (mrows_hd hw10 hi7))
        (rest := (J', rgI (1 + (i : Int) + 1) (Z - (i : Int) - 1)) :: (TL, W.listOf (recsVal recs).toArray kT) :: (WL, W.listOf vs.toArray kw) :: recsLed Z recs) ?B ?F ?X ?C ?N ?T ?hs ?hr ?ho ?hk ?hd ?hu ?_
      case hfI => rw [htl]; exact fmod_nat hws.2
      case ho =>
        refine List.forall_mem_cons.mpr ⟨notTab NN hT1 hmT (.head _) (fun o ho => tab_ne_rg ho), List.forall_mem_cons.mpr ⟨notTab NN hT1 hmT (.tail _ (.head _)) (isL_ne_tab ⟨_, _, rfl⟩), List.forall_mem_cons.mpr ⟨notTab NN hT1 hmT (.tail _ (.tail _ (.head _))) (isL_ne_tab ⟨_, _, rfl⟩), fun q hq => ?_⟩⟩⟩
        exact notTab NN hT1 hmT (by simp [hq]) (isL_ne_tab (recsLed_isL q hq))
      ((case B => assumption); (case F => exact FF); (case X => assumption); (case C => assumption); (case N => exact NN); (case T => assumption); (case hs => exact hmT); (case hr => walk_at "SUBL"); (case hk => first | exact rfl | assumption); (case hd => ktr_room); (case hu => ktr_units))
      rintro _ _ h5 tk5 ⟨rec, TB2, rfl, hT2, hTs, hr2, hpp, hc2, hf2, rfl⟩ F5 N5 K5 Z5
      have hmem2 : ∀ q ∈ rec.led Z, q ∈ (rec.led Z ++ TB2) ++ ((J', rgI (1 + (i : Int) + 1) (Z - (i : Int) - 1)) :: (TL, W.listOf (recsVal recs).toArray kT) :: (WL, W.listOf vs.toArray kw) :: recsLed Z recs) := fun q hq => by simp [hq]
      have hmem3 : ∀ q ∈ TB2, q ∈ (rec.led Z ++ TB2) ++ ((J', rgI (1 + (i : Int) + 1) (Z - (i : Int) - 1)) :: (TL, W.listOf (recsVal recs).toArray kT) :: (WL, W.listOf vs.toArray kw) :: recsLed Z recs) := fun q hq => by simp [hq]
      have hnew : ∀ q ∈ rec.led Z, q.1 ≠ TL := by
        intro q hq
        have hqL : IsL q.2 := recsLed_isL (rs := [rec]) q (by simpa [recsLed] using hq)
        have h1 : q.1 ∉ TB1.map (·.1) := fun hm => notTab N5 hT2 hmem3 (hmem2 q hq) (isL_ne_tab hqL) (hTs _ hm)
        exact (Fresh.ne Z5 (D := q.1) (o := q.2) (List.mem_append.mpr (.inl hq)) h1 NN (.tail _ (.head _))).symm
      have hTL2 : ∀ q ∈ recsLed Z (recs ++ [rec]), q.1 ≠ TL := by
        intro q hq
        rw [recsLed_snoc] at hq
        rcases List.mem_append.mp hq with h | h
        · exact hTL q h
        · exact hnew q h
      have hTBL : ∀ q ∈ TB2, q.1 ≠ TL := fun q hq e => notTab (q := (TL, W.listOf (recsVal recs).toArray kT)) N5 hT2 hmem3 (by simp) (isL_ne_tab ⟨_, _, rfl⟩) (List.mem_map.mpr ⟨q, hq, e⟩)
      have N6 : News g' L' h5 ((J', rgI (1 + (i : Int) + 1) (Z - (i : Int) - 1)) :: (TL, W.listOf (recsVal recs).toArray kT) :: (WL, W.listOf vs.toArray kw) :: (TB2 ++ recsLed Z (recs ++ [rec]))) := newsSub N5 (by rw [recsLed_snoc]; walk_at "SUBL")
      clear FF NN K5 Z5 N5
      (try dsimp only); (try k_fold)
      (repeat' (first | (k_unfold; (try dsimp only)) | (k_end; wrow_close) | ((((fail_if_success (with_reducible show wpAny _ _ (exec (Stmt.For _ _ _ _ _) _) _ _ _)); (fail_if_success (with_reducible show wpAny _ _ (exec (Stmt.While _ _ _ _) _) _ _ _)); (fail_if_success (with_reducible show Exists _)); (fail_if_success (with_reducible show wpAny _ _ (eval (Expr.ListComp _ _ _ _) _) _ _ _)); (fail_if_success (with_reducible show LCg.CompSrc _ _ _ _ _ _ _ _ _ _ _ _ _ _)); (fail_if_success (with_reducible show LCt.CompSrcT _ _ _ _ _ _ _ _ _ _ _ _ _ _ _)); (fail_if_success ((with_reducible refine stopAt ?gdK ?gdH); (case gdK => exact rfl))))); (try (rename News _ _ _ _ => nN; dsimp only at nN)); walk1) | ((((fail_if_success (with_reducible show wpAny _ _ (exec (Stmt.For _ _ _ _ _) _) _ _ _)); (fail_if_success (with_reducible show wpAny _ _ (exec (Stmt.While _ _ _ _) _) _ _ _)); (fail_if_success (with_reducible show Exists _)); (fail_if_success (with_reducible show wpAny _ _ (eval (Expr.ListComp _ _ _ _) _) _ _ _)); (fail_if_success (with_reducible show LCg.CompSrc _ _ _ _ _ _ _ _ _ _ _ _ _ _)); (fail_if_success (with_reducible show LCt.CompSrcT _ _ _ _ _ _ _ _ _ _ _ _ _ _ _)); (fail_if_success ((with_reducible refine stopAt ?gdK ?gdH); (case gdK => exact rfl))))); dsimp only; walk1) | (leave1; walk_say "STEP leave1"; try dsimp only) | fail "no step"))
      rename News _ _ _ _ => NN
      rename Fr _ _ _ _ => FF
      have hJT : J' ≠ TL := fun e => hoff (TL, W.listOf (recsVal recs).toArray kT) (.head _) e.symm
      k_here
      k_dflt (refine' appendL (n := kT) (vs := recsVal recs) (x := .ref rec.RT) ?k1 ?k2 ?k3 ?k4 ?_; (case k1 => exact FF); (case k2 => exact NN); (case k3 => exact .tail hJT (.head (List.forall_mem_cons.mpr ⟨by walk_at "NE", fun q hq => (List.mem_append.mp hq).elim (hTBL q) (hTL2 q)⟩))); (case k4 => (simp only [recsVal, List.length_map]; omega)); k_whole)
      intro h6 F6 N6
      rw [← recsVal_snoc] at N6
      clear FF NN
      (try dsimp only); (try k_fold)
      (repeat' (first | (k_unfold; (try dsimp only)) | (k_end; wrow_close) | ((((fail_if_success (with_reducible show wpAny _ _ (exec (Stmt.For _ _ _ _ _) _) _ _ _)); (fail_if_success (with_reducible show wpAny _ _ (exec (Stmt.While _ _ _ _) _) _ _ _)); (fail_if_success (with_reducible show Exists _)); (fail_if_success (with_reducible show wpAny _ _ (eval (Expr.ListComp _ _ _ _) _) _ _ _)); (fail_if_success (with_reducible show LCg.CompSrc _ _ _ _ _ _ _ _ _ _ _ _ _ _)); (fail_if_success (with_reducible show LCt.CompSrcT _ _ _ _ _ _ _ _ _ _ _ _ _ _ _)); (fail_if_success ((with_reducible refine stopAt ?gdK ?gdH); (case gdK => exact rfl))))); (try (rename News _ _ _ _ => nN; dsimp only at nN)); walk1) | ((((fail_if_success (with_reducible show wpAny _ _ (exec (Stmt.For _ _ _ _ _) _) _ _ _)); (fail_if_success (with_reducible show wpAny _ _ (exec (Stmt.While _ _ _ _) _) _ _ _)); (fail_if_success (with_reducible show Exists _)); (fail_if_success (with_reducible show wpAny _ _ (eval (Expr.ListComp _ _ _ _) _) _ _ _)); (fail_if_success (with_reducible show LCg.CompSrc _ _ _ _ _ _ _ _ _ _ _ _ _ _)); (fail_if_success (with_reducible show LCt.CompSrcT _ _ _ _ _ _ _ _ _ _ _ _ _ _ _)); (fail_if_success ((with_reducible refine stopAt ?gdK ?gdH); (case gdK => exact rfl))))); dsimp only; walk1) | (leave1; walk_say "STEP leave1"; try dsimp only) | fail "no step"))
      rename News _ _ _ _ => NE
      rename Fr _ _ _ _ => FE
      refine kOut hIv ?_
      refine ⟨Z.toNat - (i + 1), nsubS hiZ, _, _, i + 1, y, ty, kT + 1, recs ++ [rec], TB2, rfl, ⟨_, FE, rfl⟩, ?_, hT2, recsOk_snoc hrl hrec ⟨hr2, (turn_fact hZ2 hZ hw h0 hlo hF hpp hc2 hf2).1, (turn_fact hZ2 hZ hw h0 hlo hF hpp hc2 hf2).2⟩, by rw [List.length_append, hrl]; rfl, hTL2, rfl, hiZ, hy⟩
      rw [(rg_succ Z i).1, (rg_succ Z i).2]
      exact NE
    · have hie : recs.length = Z.toNat := hrl.trans (z_eq hle hi1)
      clear F2 N1
      (repeat' (first | (k_unfold; (try dsimp only)) | (k_end; wrow_close) | ((((fail_if_success (with_reducible show wpAny _ _ (exec (Stmt.For _ _ _ _ _) _) _ _ _)); (fail_if_success (with_reducible show wpAny _ _ (exec (Stmt.While _ _ _ _) _) _ _ _)); (fail_if_success (with_reducible show Exists _)); (fail_if_success (with_reducible show wpAny _ _ (eval (Expr.ListComp _ _ _ _) _) _ _ _)); (fail_if_success (with_reducible show LCg.CompSrc _ _ _ _ _ _ _ _ _ _ _ _ _ _)); (fail_if_success (with_reducible show LCt.CompSrcT _ _ _ _ _ _ _ _ _ _ _ _ _ _ _)); (fail_if_success ((with_reducible refine stopAt ?gdK ?gdH); (case gdK => exact rfl))))); (try (rename News _ _ _ _ => nN; dsimp only at nN)); walk1) | ((((fail_if_success (with_reducible show wpAny _ _ (exec (Stmt.For _ _ _ _ _) _) _ _ _)); (fail_if_success (with_reducible show wpAny _ _ (exec (Stmt.While _ _ _ _) _) _ _ _)); (fail_if_success (with_reducible show Exists _)); (fail_if_success (with_reducible show wpAny _ _ (eval (Expr.ListComp _ _ _ _) _) _ _ _)); (fail_if_success (with_reducible show LCg.CompSrc _ _ _ _ _ _ _ _ _ _ _ _ _ _)); (fail_if_success (with_reducible show LCt.CompSrcT _ _ _ _ _ _ _ _ _ _ _ _ _ _ _)); (fail_if_success ((with_reducible refine stopAt ?gdK ?gdH); (case gdK => exact rfl))))); dsimp only; walk1) | (leave1; walk_say "STEP leave1"; try dsimp only) | fail "no step"))
      rename News h₀ _ _ _ => NE
      rename News g' _ _ _ => NG
      exact hret _ _ _ _ ⟨TL, kT, recs, TB1, rfl, hT1, hrec, hie, rfl⟩ (by assumption) NE (Keep.fr Kg (by assumption)) (Keep.fresh Kg NG)
end Mine

-- part Lf
namespace Mine
theorem takeSnoc {α : Type} {l : List α} {i : Nat} {q : α} (h : l[i]? = some q) : l.take (i + 1) = l.take i ++ [q] := by
  rw [List.take_add_one, h]; rfl
theorem rangeSnoc (i : Nat) : rangeKs 0 (i + 1) = rangeKs 0 i ++ [(i : Int)] := by simp [rangeKs, List.range_succ]
def stepsF (Z : Int) (ws : List Nat) (a : Int) : List Int := (toI ws).map fun z => (a - z).fmod Z
theorem steps_cnt {Z a j : Int} (hZ : 0 < Z) (ws : List Nat) : ((stepsF Z ws a).filter (fun z => decide (z ≤ j))).length = cnt Z a j (toI ws) := by
  rw [← List.countP_eq_length_filter, stepsF, List.countP_map]
  unfold cnt
  congr 1
  funext z
  simp only [Function.comp]
  have e : (a - z).fmod Z = (a - z) % Z := Int.fmod_eq_emod_of_nonneg _ (by omega)
  simp only [e]
theorem steps_left {Z a : Int} (hZ : 0 < Z) (ws : List Nat) : (decide (((rangeKs 0 Z.toNat).filter (fun j => decide (j < (((stepsF Z ws a).filter (fun z => decide (z ≤ j))).length : Int)))) = [])) = leftOk Z (toI ws) a := by
  rw [Bool.eq_iff_iff, decide_eq_true_eq, List.filter_eq_nil_iff]
  unfold leftOk
  rw [List.all_eq_true]
  constructor
  · intro h j hj
    have h1 := h j hj
    have h2 := mem_rangeKs hj
    rw [steps_cnt hZ] at h1
    simp only [decide_eq_true_eq] at h1 ⊢
    omega
  · intro h j hj
    have h1 := h j hj
    have h2 := mem_rangeKs hj
    rw [steps_cnt hZ]
    simp only [decide_eq_true_eq] at h1 ⊢
    omega
inductive LfP (Z : Int) (ws : List Nat) (WL : Nat) (vs : List Value) (kw : Nat) (r : Value) (post : List (Addr × Obj)) : Prop
  | mk (FL kf : Nat) (vl : List Value) (er : r = .ref FL) (hi : IntsAre vl ((rangeKs 0 Z.toNat).filter (leftOk Z (toI ws)))) (ep : post = [(FL, W.listOf vl.toArray kf), (WL, W.listOf vs.toArray kw)])
inductive LfI (Z : Int) (tz : Nat) (ws : List Nat) (WL LL : Nat) (vs : List Value) (kw : Nat) (s : Shared) (g : Heap) (L : Nat) (J : Addr) (k : Nat) (s1 : Shared) : Prop
  | mk (h1 : Heap) (tk1 i : Nat) (oS oP oT : Obj) (vP vT : Option Value) (vl : List Value) (kl : Nat) (e : s1 = { s with heap := h1, toks := tk1 }) (F : FrAt g L h1 [("wishes", .ref WL), ("left", .ref LL)])
    (N : News g L h1 [(J, rgI (i : Int) (Z - (i : Int))), (LL, W.listOf vl.toArray kl), (L + 1 + 1 + 1, oT), (L + 1 + 1, oP), (L + 1, oS), (WL, W.listOf vs.toArray kw)]) (dS : oS.data = .cell (some (.int Z tz))) (dP : oP.data = .cell vP) (dT : oT.data = .cell vT)
    (ltJ : AL J [LL, L + 1 + 1 + 1, L + 1 + 1, L + 1, WL]) (hvl : IntsAre vl ((rangeKs 0 i).filter (leftOk Z (toI ws)))) (ek : k = Z.toNat - i) (hi : i ≤ Z.toNat)
theorem left_no {Z : Int} {ws : List Nat} {i : Nat} (h : leftOk Z (toI ws) (i : Int) = false) : (rangeKs 0 (i + 1)).filter (leftOk Z (toI ws)) = (rangeKs 0 i).filter (leftOk Z (toI ws)) := by
  rw [rangeSnoc, List.filter_append]; simp [h]
theorem left_yes {Z : Int} {ws : List Nat} {i : Nat} (h : leftOk Z (toI ws) (i : Int) = true) : (rangeKs 0 (i + 1)).filter (leftOk Z (toI ws)) = (rangeKs 0 i).filter (leftOk Z (toI ws)) ++ [(i : Int)] := by
  rw [rangeSnoc, List.filter_append]; simp [h]
theorem left_small {Z : Int} {ws : List Nat} {i : Nat} {vl : List Value} (h : IntsAre vl ((rangeKs 0 i).filter (leftOk Z (toI ws)))) (hi : i < Z.toNat) (hZ2 : 4 ≤ Z ∧ Z ≤ 7) : vl.length < 2 ^ 20 := by
  have h1 := h.length
  have h2 := List.length_filter_le (leftOk Z (toI ws)) (rangeKs 0 i)
  rw [rangeKs_length] at h2; omega
theorem z_lt2 {i : Nat} {Z : Int} (h : 0 < Z - (i : Int)) : i < Z.toNat := by omega
theorem z_eq2 {i : Nat} {Z : Int} (h : Z - (i : Int) ≤ 0) (hi : i ≤ Z.toNat) : i = Z.toNat := by omega
theorem ws_sz {ws : List Nat} {Z : Int} (hZ : (ws.length : Int) + 1 = Z) (hZ2 : 4 ≤ Z ∧ Z ≤ 7) : ws.length ≤ sizeLine ∧ Z.toNat < 2 ^ 20 ∧ 0 < Z ∧ (Z.toNat : Int) = Z := by rw [sizeLine_eq]; omega
theorem left_call (w : World) (WL : Nat) (vs : List Value) (ws : List Nat) (kw : Nat) (Z : Int) (tz : Tok) (hi : IntsAre vs (toI ws)) (hZ : (ws.length : Int) + 1 = Z) (hZ2 : 4 ≤ Z ∧ Z ≤ 7) (hw : ∀ x ∈ ws, (x : Int) < Z) :
    Call w 6 300 (.ref 162) [.ref WL, .int Z tz] [(WL, W.listOf vs.toArray kw)] (LfP Z ws WL vs kw) := by
  unfold Call
  intro p loose mean mg mb dp un gd cn cs b ccd cl outer A₀ base h₀ L m s Q E B F X C N T hcs hd hu hret
  ((k_dflt (refine' code_defCK ?k1 ?k2 ?k3 ?kC ?k4 ?k5 ?kA ?kF ?kK ?k6 ?k7 ?k8 ?k9 ?kB ?kD ?_ ?c2 ?c3 ?c4; (case kA => exact rfl); (case kF => exact rfl); (case kK => assumption); (case k1 => k_asm); (case k2 => k_asm); (case k3 => k_asm); (case kC => k_asm); (case k4 => k_asm); (case k5 => k_asm); (case k6 => k_is); (case k7 => k_is); (case k8 => k_room); (case k9 => first | exact BindsTo.of_eq rfl | (refine' kp_binds ?kx ?ke; (case kx => k_in); (case ke => exact fun _ => rfl))); (case kB => exact rfl); (case kD => decide +kernel); (case c2 => exact rfl); (case c3 => exact rfl); (case c4 => exact rfl); k_whole)))
  intro g' L' h' tk' cells' FG' F' N' Y' B' X' T' C' Kg l1
  k_lt l1
  k_cells Y'
  simp only [List.cons_append, List.nil_append] at N'
  (try dsimp only); (try k_fold)
  (repeat' (first | (k_unfold; (try dsimp only)) | (k_end; wrow_close) | ((((fail_if_success (with_reducible show wpAny _ _ (exec (Stmt.For _ _ _ _ _) _) _ _ _)); (fail_if_success (with_reducible show wpAny _ _ (exec (Stmt.While _ _ _ _) _) _ _ _)); (fail_if_success (with_reducible show Exists _)); (fail_if_success (with_reducible show wpAny _ _ (eval (Expr.ListComp _ _ _ _) _) _ _ _)); (fail_if_success (with_reducible show LCg.CompSrc _ _ _ _ _ _ _ _ _ _ _ _ _ _)); (fail_if_success (with_reducible show LCt.CompSrcT _ _ _ _ _ _ _ _ _ _ _ _ _ _ _)); (fail_if_success ((with_reducible refine stopAt ?gdK ?gdH); (case gdK => exact rfl))))); (try (rename News _ _ _ _ => nN; dsimp only at nN)); walk1) | ((((fail_if_success (with_reducible show wpAny _ _ (exec (Stmt.For _ _ _ _ _) _) _ _ _)); (fail_if_success (with_reducible show wpAny _ _ (exec (Stmt.While _ _ _ _) _) _ _ _)); (fail_if_success (with_reducible show Exists _)); (fail_if_success (with_reducible show wpAny _ _ (eval (Expr.ListComp _ _ _ _) _) _ _ _)); (fail_if_success (with_reducible show LCg.CompSrc _ _ _ _ _ _ _ _ _ _ _ _ _ _)); (fail_if_success (with_reducible show LCt.CompSrcT _ _ _ _ _ _ _ _ _ _ _ _ _ _ _)); (fail_if_success ((with_reducible refine stopAt ?gdK ?gdH); (case gdK => exact rfl))))); dsimp only; walk1) | (leave1; walk_say "STEP leave1"; try dsimp only) | fail "no step"))
  rename_i oT oP oS dT dP dS LL _ lt1 _ FF NN
  have dS' : oS.data = .cell (some (.int Z tz)) := dS
  have hsz := ws_sz hZ hZ2
  refine for_invO (LfI Z tz ws WL LL vs kw s g' L') (fun Iv hIv => ?_) (fun Iv hIv => ?_)
  · (repeat' (first | (k_unfold; (try dsimp only)) | (k_end; wrow_close) | ((((fail_if_success (with_reducible show wpAny _ _ (exec (Stmt.For _ _ _ _ _) _) _ _ _)); (fail_if_success (with_reducible show wpAny _ _ (exec (Stmt.While _ _ _ _) _) _ _ _)); (fail_if_success (with_reducible show Exists _)); (fail_if_success (with_reducible show wpAny _ _ (eval (Expr.ListComp _ _ _ _) _) _ _ _)); (fail_if_success (with_reducible show LCg.CompSrc _ _ _ _ _ _ _ _ _ _ _ _ _ _)); (fail_if_success (with_reducible show LCt.CompSrcT _ _ _ _ _ _ _ _ _ _ _ _ _ _ _)); (fail_if_success ((with_reducible refine stopAt ?gdK ?gdH); (case gdK => exact rfl))))); (try (rename News _ _ _ _ => nN; dsimp only at nN)); walk1) | ((((fail_if_success (with_reducible show wpAny _ _ (exec (Stmt.For _ _ _ _ _) _) _ _ _)); (fail_if_success (with_reducible show wpAny _ _ (exec (Stmt.While _ _ _ _) _) _ _ _)); (fail_if_success (with_reducible show Exists _)); (fail_if_success (with_reducible show wpAny _ _ (eval (Expr.ListComp _ _ _ _) _) _ _ _)); (fail_if_success (with_reducible show LCg.CompSrc _ _ _ _ _ _ _ _ _ _ _ _ _ _)); (fail_if_success (with_reducible show LCt.CompSrcT _ _ _ _ _ _ _ _ _ _ _ _ _ _ _)); (fail_if_success ((with_reducible refine stopAt ?gdK ?gdH); (case gdK => exact rfl))))); dsimp only; walk1) | (leave1; walk_say "STEP leave1"; try dsimp only) | fail "no step"))
    rename_i IT1 h9 FE NE lt9
    refine kOut0 hIv ?_
    exact ⟨IT1, Z.toNat, rfl, _, _, 0, oS, oP, oT, _, _, [], 0, rfl, ⟨_, FE, rfl⟩, NE, dS', dP, dT, lt9, .nil, rfl, Nat.zero_le _⟩
  · clear dS dP dT dS' NN FF
    rintro J' k s1 ⟨h1, tk1, i, oS1, oP1, oT1, vP, vT, vl, kl, rfl, F1, N1, dS, dP, dT, ltJ, hvl, rfl, hi1⟩
    refine F1.use fun m1 F2 => ?_
    clear F1
    refine range_next rfl F2 N1 ?_ (fun hlt h3 F3 N3 => ?_) (fun hle h3 F3 N3 => ?_)
    · walk_at "OFF"
    · clear F2 N1
      (repeat' (first | (k_unfold; (try dsimp only)) | (k_end; wrow_close) | ((((fail_if_success (with_reducible show wpAny _ _ (exec (Stmt.For _ _ _ _ _) _) _ _ _)); (fail_if_success (with_reducible show wpAny _ _ (exec (Stmt.While _ _ _ _) _) _ _ _)); (fail_if_success (with_reducible show Exists _)); (fail_if_success (with_reducible show wpAny _ _ (eval (Expr.ListComp _ _ _ _) _) _ _ _)); (fail_if_success (with_reducible show LCg.CompSrc _ _ _ _ _ _ _ _ _ _ _ _ _ _)); (fail_if_success (with_reducible show LCt.CompSrcT _ _ _ _ _ _ _ _ _ _ _ _ _ _ _)); (fail_if_success ((with_reducible refine stopAt ?gdK ?gdH); (case gdK => exact rfl))))); (try (rename News _ _ _ _ => nN; dsimp only at nN)); walk1) | ((((fail_if_success (with_reducible show wpAny _ _ (exec (Stmt.For _ _ _ _ _) _) _ _ _)); (fail_if_success (with_reducible show wpAny _ _ (exec (Stmt.While _ _ _ _) _) _ _ _)); (fail_if_success (with_reducible show Exists _)); (fail_if_success (with_reducible show wpAny _ _ (eval (Expr.ListComp _ _ _ _) _) _ _ _)); (fail_if_success (with_reducible show LCg.CompSrc _ _ _ _ _ _ _ _ _ _ _ _ _ _)); (fail_if_success (with_reducible show LCt.CompSrcT _ _ _ _ _ _ _ _ _ _ _ _ _ _ _)); (fail_if_success ((with_reducible refine stopAt ?gdK ?gdH); (case gdK => exact rfl))))); dsimp only; walk1) | (leave1; walk_say "STEP leave1"; try dsimp only) | fail "no step"))
      rename News _ _ _ _ => NN
      rename Fr _ _ _ _ => FF
      have hvs : vs.toArray.size = ws.length := hi.length.trans (List.length_map ..)
      k_here
      k_dflt (refine LCg.ListComp_U (F₀ := by k_asm) (by rfl) (by decide) (by rfl) (by decide) (by rfl) ?_)
      (repeat' (first | (k_unfold; (try dsimp only)) | (k_end; wrow_close) | ((((fail_if_success (with_reducible show wpAny _ _ (exec (Stmt.For _ _ _ _ _) _) _ _ _)); (fail_if_success (with_reducible show wpAny _ _ (exec (Stmt.While _ _ _ _) _) _ _ _)); (fail_if_success (with_reducible show Exists _)); (fail_if_success (with_reducible show wpAny _ _ (eval (Expr.ListComp _ _ _ _) _) _ _ _)); (fail_if_success (with_reducible show LCg.CompSrc _ _ _ _ _ _ _ _ _ _ _ _ _ _)); (fail_if_success (with_reducible show LCt.CompSrcT _ _ _ _ _ _ _ _ _ _ _ _ _ _ _)); (fail_if_success ((with_reducible refine stopAt ?gdK ?gdH); (case gdK => exact rfl))))); (try (rename News _ _ _ _ => nN; dsimp only at nN)); walk1) | ((((fail_if_success (with_reducible show wpAny _ _ (exec (Stmt.For _ _ _ _ _) _) _ _ _)); (fail_if_success (with_reducible show wpAny _ _ (exec (Stmt.While _ _ _ _) _) _ _ _)); (fail_if_success (with_reducible show Exists _)); (fail_if_success (with_reducible show wpAny _ _ (eval (Expr.ListComp _ _ _ _) _) _ _ _)); (fail_if_success (with_reducible show LCg.CompSrc _ _ _ _ _ _ _ _ _ _ _ _ _ _)); (fail_if_success (with_reducible show LCt.CompSrcT _ _ _ _ _ _ _ _ _ _ _ _ _ _ _)); (fail_if_success ((with_reducible refine stopAt ?gdK ?gdH); (case gdK => exact rfl))))); dsimp only; walk1) | (leave1; walk_say "STEP leave1"; try dsimp only) | fail "no step"))
      rename News _ _ _ _ => NN
      rename Fr _ _ _ _ => FF
      k_here
      k_dflt (refine' LCg.CompSrc.ledger ?c1 ?c2 ?c3 ?c4 ?c5 ?_; (case c2 => exact FF); (case c3 => exact NN); (case c4 => k_mem); (case c5 => (rw [hvs]; exact hsz.1)); (case c1 => rfl))
      intro g9
      refine comp_rest (.inr ⟨_, by k_mem, rfl, _, rfl⟩) (fun j ys => IntsAre ys (((toI ws).take j).map fun z => ((i : Int) - z).fmod Z)) .nil ?_ ?_
      · rintro j ys v I3 oI C3 oC D3 m4 h8 tk8 E8 hj hys hv3 hC3 hx3 F8 N8 off8
        obtain ⟨z3, t3, rfl, hz3⟩ := intsGet hi j v (by simpa using hv3)
        (repeat' (first | (k_unfold; (try dsimp only)) | (k_end; wrow_close) | ((((fail_if_success (with_reducible show wpAny _ _ (exec (Stmt.For _ _ _ _ _) _) _ _ _)); (fail_if_success (with_reducible show wpAny _ _ (exec (Stmt.While _ _ _ _) _) _ _ _)); (fail_if_success (with_reducible show Exists _)); (fail_if_success (with_reducible show wpAny _ _ (eval (Expr.ListComp _ _ _ _) _) _ _ _)); (fail_if_success (with_reducible show LCg.CompSrc _ _ _ _ _ _ _ _ _ _ _ _ _ _)); (fail_if_success (with_reducible show LCt.CompSrcT _ _ _ _ _ _ _ _ _ _ _ _ _ _ _)); (fail_if_success ((with_reducible refine stopAt ?gdK ?gdH); (case gdK => exact rfl))))); (try (rename News _ _ _ _ => nN; dsimp only at nN)); walk1) | ((((fail_if_success (with_reducible show wpAny _ _ (exec (Stmt.For _ _ _ _ _) _) _ _ _)); (fail_if_success (with_reducible show wpAny _ _ (exec (Stmt.While _ _ _ _) _) _ _ _)); (fail_if_success (with_reducible show Exists _)); (fail_if_success (with_reducible show wpAny _ _ (eval (Expr.ListComp _ _ _ _) _) _ _ _)); (fail_if_success (with_reducible show LCg.CompSrc _ _ _ _ _ _ _ _ _ _ _ _ _ _)); (fail_if_success (with_reducible show LCt.CompSrcT _ _ _ _ _ _ _ _ _ _ _ _ _ _ _)); (fail_if_success ((with_reducible refine stopAt ?gdK ?gdH); (case gdK => exact rfl))))); dsimp only; walk1) | (leave1; walk_say "STEP leave1"; try dsimp only) | fail "no step"))
        exact ⟨_, _, rfl, by assumption, by assumption, by rw [takeSnoc hz3, List.map_append]; exact IntsAre.append hys (.cons _ _ .nil)⟩
      · intro ys9 hys9
        walk_at "FinE"
        rw [hvs, List.take_of_length_le (by simp)] at hys9
        change IntsAre ys9 (stepsF Z ws i) at hys9
        (repeat' (first | (k_unfold; (try dsimp only)) | (k_end; wrow_close) | ((((fail_if_success (with_reducible show wpAny _ _ (exec (Stmt.For _ _ _ _ _) _) _ _ _)); (fail_if_success (with_reducible show wpAny _ _ (exec (Stmt.While _ _ _ _) _) _ _ _)); (fail_if_success (with_reducible show Exists _)); (fail_if_success (with_reducible show wpAny _ _ (eval (Expr.ListComp _ _ _ _) _) _ _ _)); (fail_if_success (with_reducible show LCg.CompSrc _ _ _ _ _ _ _ _ _ _ _ _ _ _)); (fail_if_success (with_reducible show LCt.CompSrcT _ _ _ _ _ _ _ _ _ _ _ _ _ _ _)); (fail_if_success ((with_reducible refine stopAt ?gdK ?gdH); (case gdK => exact rfl))))); (try (rename News _ _ _ _ => nN; dsimp only at nN)); walk1) | ((((fail_if_success (with_reducible show wpAny _ _ (exec (Stmt.For _ _ _ _ _) _) _ _ _)); (fail_if_success (with_reducible show wpAny _ _ (exec (Stmt.While _ _ _ _) _) _ _ _)); (fail_if_success (with_reducible show Exists _)); (fail_if_success (with_reducible show wpAny _ _ (eval (Expr.ListComp _ _ _ _) _) _ _ _)); (fail_if_success (with_reducible show LCg.CompSrc _ _ _ _ _ _ _ _ _ _ _ _ _ _)); (fail_if_success (with_reducible show LCt.CompSrcT _ _ _ _ _ _ _ _ _ _ _ _ _ _ _)); (fail_if_success ((with_reducible refine stopAt ?gdK ?gdH); (case gdK => exact rfl))))); dsimp only; walk1) | (leave1; walk_say "STEP leave1"; try dsimp only) | fail "no step"))
        have hnz := hsz.2.2.2
        rename Fr _ _ _ _ => FF
        k_here
        k_dflt (refine ListComp_cellRange (n := Z.toNat) FF (fun j => decide (j < (((stepsF Z ws i).filter (fun z => decide (z ≤ j))).length : Int))) rfl hsz.2.1 (by rfl) (by rfl) (by decide) (fun _ _ => rfl) (fun _ => rfl) (fun _ => rfl) (by decide) ?_)
        (repeat' (first | (k_unfold; (try dsimp only)) | (k_end; wrow_close) | ((((fail_if_success (with_reducible show wpAny _ _ (exec (Stmt.For _ _ _ _ _) _) _ _ _)); (fail_if_success (with_reducible show wpAny _ _ (exec (Stmt.While _ _ _ _) _) _ _ _)); (fail_if_success (with_reducible show Exists _)); (fail_if_success (with_reducible show wpAny _ _ (eval (Expr.ListComp _ _ _ _) _) _ _ _)); (fail_if_success (with_reducible show LCg.CompSrc _ _ _ _ _ _ _ _ _ _ _ _ _ _)); (fail_if_success (with_reducible show LCt.CompSrcT _ _ _ _ _ _ _ _ _ _ _ _ _ _ _)); (fail_if_success ((with_reducible refine stopAt ?gdK ?gdH); (case gdK => exact rfl))))); (try (rename News _ _ _ _ => nN; dsimp only at nN)); walk1) | ((((fail_if_success (with_reducible show wpAny _ _ (exec (Stmt.For _ _ _ _ _) _) _ _ _)); (fail_if_success (with_reducible show wpAny _ _ (exec (Stmt.While _ _ _ _) _) _ _ _)); (fail_if_success (with_reducible show Exists _)); (fail_if_success (with_reducible show wpAny _ _ (eval (Expr.ListComp _ _ _ _) _) _ _ _)); (fail_if_success (with_reducible show LCg.CompSrc _ _ _ _ _ _ _ _ _ _ _ _ _ _)); (fail_if_success (with_reducible show LCt.CompSrcT _ _ _ _ _ _ _ _ _ _ _ _ _ _ _)); (fail_if_success ((with_reducible refine stopAt ?gdK ?gdH); (case gdK => exact rfl))))); dsimp only; walk1) | (leave1; walk_say "STEP leave1"; try dsimp only) | fail "no step"))
        rename News _ _ _ _ => NN
        rename Fr _ _ _ _ => FF
        refine ⟨_, _, _, _, _, _, rfl, FF, NN, by assumption, hnz.symm, ?_, ?_⟩
        · intro i2 ti2 I2 oI2 C2 oC2 J2 oJ2 D2 ys2 h12 tk12 E12 hi2 hoJ2 F12 N12 off12
          (repeat' (first | (k_unfold; (try dsimp only)) | (k_end; wrow_close) | ((((fail_if_success (with_reducible show wpAny _ _ (exec (Stmt.For _ _ _ _ _) _) _ _ _)); (fail_if_success (with_reducible show wpAny _ _ (exec (Stmt.While _ _ _ _) _) _ _ _)); (fail_if_success (with_reducible show Exists _)); (fail_if_success (with_reducible show wpAny _ _ (eval (Expr.ListComp _ _ _ _) _) _ _ _)); (fail_if_success (with_reducible show LCg.CompSrc _ _ _ _ _ _ _ _ _ _ _ _ _ _)); (fail_if_success (with_reducible show LCt.CompSrcT _ _ _ _ _ _ _ _ _ _ _ _ _ _ _)); (fail_if_success ((with_reducible refine stopAt ?gdK ?gdH); (case gdK => exact rfl))))); (try (rename News _ _ _ _ => nN; dsimp only at nN)); walk1) | ((((fail_if_success (with_reducible show wpAny _ _ (exec (Stmt.For _ _ _ _ _) _) _ _ _)); (fail_if_success (with_reducible show wpAny _ _ (exec (Stmt.While _ _ _ _) _) _ _ _)); (fail_if_success (with_reducible show Exists _)); (fail_if_success (with_reducible show wpAny _ _ (eval (Expr.ListComp _ _ _ _) _) _ _ _)); (fail_if_success (with_reducible show LCg.CompSrc _ _ _ _ _ _ _ _ _ _ _ _ _ _)); (fail_if_success (with_reducible show LCt.CompSrcT _ _ _ _ _ _ _ _ _ _ _ _ _ _ _)); (fail_if_success ((with_reducible refine stopAt ?gdK ?gdH); (case gdK => exact rfl))))); dsimp only; walk1) | (leave1; walk_say "STEP leave1"; try dsimp only) | fail "no step"))
          k_here
          k_dflt (refine LCt.ListComp_T (F₀ := by k_asm) (by rfl) (by decide) (by rfl) (by decide) (by rfl) ?_)
          (repeat' (first | (k_unfold; (try dsimp only)) | (k_end; wrow_close) | ((((fail_if_success (with_reducible show wpAny _ _ (exec (Stmt.For _ _ _ _ _) _) _ _ _)); (fail_if_success (with_reducible show wpAny _ _ (exec (Stmt.While _ _ _ _) _) _ _ _)); (fail_if_success (with_reducible show Exists _)); (fail_if_success (with_reducible show wpAny _ _ (eval (Expr.ListComp _ _ _ _) _) _ _ _)); (fail_if_success (with_reducible show LCg.CompSrc _ _ _ _ _ _ _ _ _ _ _ _ _ _)); (fail_if_success (with_reducible show LCt.CompSrcT _ _ _ _ _ _ _ _ _ _ _ _ _ _ _)); (fail_if_success ((with_reducible refine stopAt ?gdK ?gdH); (case gdK => exact rfl))))); (try (rename News _ _ _ _ => nN; dsimp only at nN)); walk1) | ((((fail_if_success (with_reducible show wpAny _ _ (exec (Stmt.For _ _ _ _ _) _) _ _ _)); (fail_if_success (with_reducible show wpAny _ _ (exec (Stmt.While _ _ _ _) _) _ _ _)); (fail_if_success (with_reducible show Exists _)); (fail_if_success (with_reducible show wpAny _ _ (eval (Expr.ListComp _ _ _ _) _) _ _ _)); (fail_if_success (with_reducible show LCg.CompSrc _ _ _ _ _ _ _ _ _ _ _ _ _ _)); (fail_if_success (with_reducible show LCt.CompSrcT _ _ _ _ _ _ _ _ _ _ _ _ _ _ _)); (fail_if_success ((with_reducible refine stopAt ?gdK ?gdH); (case gdK => exact rfl))))); dsimp only; walk1) | (leave1; walk_say "STEP leave1"; try dsimp only) | fail "no step"))
          rename News _ _ _ _ => NN
          rename Fr _ _ _ _ => FF
          have hsl : ys9.toArray.size = (stepsF Z ws i).length := hys9.length
          have hsl2 : (stepsF Z ws i).length = ws.length := by rw [stepsF, List.length_map, List.length_map]
          k_here
          k_dflt (refine' LCt.CompSrcT.ledger ?c1 ?c2 ?c3 ?c4 ?c5 ?_; (case c2 => exact FF); (case c3 => exact NN); (case c4 => k_mem); (case c5 => (rw [hsl, hsl2]; exact hsz.1)); (case c1 => rfl))
          intro g10
          refine comp_restT (.inr ⟨_, by k_mem, rfl, _, rfl⟩) (fun j ys => IntsAre ys (((stepsF Z ws i).take j).filter fun z => decide (z ≤ (i2 : Int)))) .nil ?_ ?_
          · rintro j ys v I3 oI C3 oC D3 m4 h8 tk8 E8 hj hys hv3 hC3 hx3 F8 N8 off8
            obtain ⟨z3, t3, rfl, hz3⟩ := intsGet hys9 j v (by simpa using hv3)
            rcases Int.lt_or_le (i2 : Int) z3 with hgt | hle
            · (repeat' (first | (k_unfold; (try dsimp only)) | (k_end; wrow_close) | ((((fail_if_success (with_reducible show wpAny _ _ (exec (Stmt.For _ _ _ _ _) _) _ _ _)); (fail_if_success (with_reducible show wpAny _ _ (exec (Stmt.While _ _ _ _) _) _ _ _)); (fail_if_success (with_reducible show Exists _)); (fail_if_success (with_reducible show wpAny _ _ (eval (Expr.ListComp _ _ _ _) _) _ _ _)); (fail_if_success (with_reducible show LCg.CompSrc _ _ _ _ _ _ _ _ _ _ _ _ _ _)); (fail_if_success (with_reducible show LCt.CompSrcT _ _ _ _ _ _ _ _ _ _ _ _ _ _ _)); (fail_if_success ((with_reducible refine stopAt ?gdK ?gdH); (case gdK => exact rfl))))); (try (rename News _ _ _ _ => nN; dsimp only at nN)); walk1) | ((((fail_if_success (with_reducible show wpAny _ _ (exec (Stmt.For _ _ _ _ _) _) _ _ _)); (fail_if_success (with_reducible show wpAny _ _ (exec (Stmt.While _ _ _ _) _) _ _ _)); (fail_if_success (with_reducible show Exists _)); (fail_if_success (with_reducible show wpAny _ _ (eval (Expr.ListComp _ _ _ _) _) _ _ _)); (fail_if_success (with_reducible show LCg.CompSrc _ _ _ _ _ _ _ _ _ _ _ _ _ _)); (fail_if_success (with_reducible show LCt.CompSrcT _ _ _ _ _ _ _ _ _ _ _ _ _ _ _)); (fail_if_success ((with_reducible refine stopAt ?gdK ?gdH); (case gdK => exact rfl))))); dsimp only; walk1) | (leave1; walk_say "STEP leave1"; try dsimp only) | fail "no step"))
              exact ⟨_, _, rfl, by assumption, by assumption, by rw [takeSnoc hz3, List.filter_append]; simpa [Int.not_le.mpr hgt] using hys⟩
            · (repeat' (first | (k_unfold; (try dsimp only)) | (k_end; wrow_close) | ((((fail_if_success (with_reducible show wpAny _ _ (exec (Stmt.For _ _ _ _ _) _) _ _ _)); (fail_if_success (with_reducible show wpAny _ _ (exec (Stmt.While _ _ _ _) _) _ _ _)); (fail_if_success (with_reducible show Exists _)); (fail_if_success (with_reducible show wpAny _ _ (eval (Expr.ListComp _ _ _ _) _) _ _ _)); (fail_if_success (with_reducible show LCg.CompSrc _ _ _ _ _ _ _ _ _ _ _ _ _ _)); (fail_if_success (with_reducible show LCt.CompSrcT _ _ _ _ _ _ _ _ _ _ _ _ _ _ _)); (fail_if_success ((with_reducible refine stopAt ?gdK ?gdH); (case gdK => exact rfl))))); (try (rename News _ _ _ _ => nN; dsimp only at nN)); walk1) | ((((fail_if_success (with_reducible show wpAny _ _ (exec (Stmt.For _ _ _ _ _) _) _ _ _)); (fail_if_success (with_reducible show wpAny _ _ (exec (Stmt.While _ _ _ _) _) _ _ _)); (fail_if_success (with_reducible show Exists _)); (fail_if_success (with_reducible show wpAny _ _ (eval (Expr.ListComp _ _ _ _) _) _ _ _)); (fail_if_success (with_reducible show LCg.CompSrc _ _ _ _ _ _ _ _ _ _ _ _ _ _)); (fail_if_success (with_reducible show LCt.CompSrcT _ _ _ _ _ _ _ _ _ _ _ _ _ _ _)); (fail_if_success ((with_reducible refine stopAt ?gdK ?gdH); (case gdK => exact rfl))))); dsimp only; walk1) | (leave1; walk_say "STEP leave1"; try dsimp only) | fail "no step"))
              exact ⟨_, _, rfl, by assumption, by assumption, by rw [takeSnoc hz3, List.filter_append]; simpa [hle] using IntsAre.append hys (.cons z3 t3 .nil)⟩
          · intro ys10 hys10
            walk_at "FinE"
            rw [hsl, List.take_length] at hys10
            have hyl := hys10.length
            have hfl := List.length_filter_le (fun z => decide (z ≤ (i2 : Int))) (stepsF Z ws i)
            (repeat' (first | (k_unfold; (try dsimp only)) | (k_end; wrow_close) | ((((fail_if_success (with_reducible show wpAny _ _ (exec (Stmt.For _ _ _ _ _) _) _ _ _)); (fail_if_success (with_reducible show wpAny _ _ (exec (Stmt.While _ _ _ _) _) _ _ _)); (fail_if_success (with_reducible show Exists _)); (fail_if_success (with_reducible show wpAny _ _ (eval (Expr.ListComp _ _ _ _) _) _ _ _)); (fail_if_success (with_reducible show LCg.CompSrc _ _ _ _ _ _ _ _ _ _ _ _ _ _)); (fail_if_success (with_reducible show LCt.CompSrcT _ _ _ _ _ _ _ _ _ _ _ _ _ _ _)); (fail_if_success ((with_reducible refine stopAt ?gdK ?gdH); (case gdK => exact rfl))))); (try (rename News _ _ _ _ => nN; dsimp only at nN)); walk1) | ((((fail_if_success (with_reducible show wpAny _ _ (exec (Stmt.For _ _ _ _ _) _) _ _ _)); (fail_if_success (with_reducible show wpAny _ _ (exec (Stmt.While _ _ _ _) _) _ _ _)); (fail_if_success (with_reducible show Exists _)); (fail_if_success (with_reducible show wpAny _ _ (eval (Expr.ListComp _ _ _ _) _) _ _ _)); (fail_if_success (with_reducible show LCg.CompSrc _ _ _ _ _ _ _ _ _ _ _ _ _ _)); (fail_if_success (with_reducible show LCt.CompSrcT _ _ _ _ _ _ _ _ _ _ _ _ _ _ _)); (fail_if_success ((with_reducible refine stopAt ?gdK ?gdH); (case gdK => exact rfl))))); dsimp only; walk1) | (leave1; walk_say "STEP leave1"; try dsimp only) | fail "no step"))
            rename News _ _ _ _ => NN
            exact ⟨by first | rfl | rw [hyl] | simp [hyl], _, _, rfl, by assumption, newsSub NN (by (first | exact subI | (((try dsimp only [lexM, lexO, rdM, rdP, lexD, strD, List.cons_append, List.nil_append])); first | walk_at "ALLIN" | walk_at "SUBALL")))⟩
        · intro D13 ys13 h13 tk13 hys13 F13 N13 lt13
          clear NN FF
          have hT := steps_left (Z := Z) (a := (i : Int)) hsz.2.2.1 ws
          replace lt13 := AL.of lt13
          dsimp only [List.map] at lt13
          generalize ((rangeKs 0 Z.toNat).filter (fun j => decide (j < (((stepsF Z ws i).filter (fun z => decide (z ≤ j))).length : Int)))) = jl at hys13 hT
          walk1
          dsimp only
          walk1
          try dsimp only
          walk1
          try dsimp only
          rename News _ _ _ _ => NN
          rename Fr _ _ _ _ => FF
          k_here
          k_dflt (refine' ke_eq_ints (xs := ys13) (ys := []) (ns := jl) (ms := []) ?a1 ?a2 hys13 .nil ?a3 ?_; (case a1 => exact ⟨_, (NN _ (.tail _ (.head _))).1, rfl, _, rfl⟩); (case a2 => exact ⟨_, (NN _ (.head _)).1, rfl, _, rfl⟩); (case a3 => ktr_units))
          try dsimp only
          rw [hT]
          cases hlo : leftOk Z (toI ws) (i : Int)
          · walk1
            try dsimp only
            simp only [Bool.false_eq_true, if_false]
            walk1
            try dsimp only
            walk1
            try dsimp only
            rename News _ _ _ _ => NE
            rename Fr _ _ _ _ => FE
            rename (Obj.data _ = Data.cell (some (Value.ref _))) => dT2
            rename (Obj.data _ = Data.cell (some (Value.int (i : Int) _))) => dP2
            have hfi := left_no hlo
            refine kOut hIv ?_
            refine ⟨Z.toNat - (i + 1), nsubS (z_lt2 hlt), _, _, i + 1, oS1, _, _, _, _, vl, kl, rfl, ⟨_, FE, rfl⟩, newsSub NE ?sb1, dS, dP2, dT2, ltJ, by rw [hfi]; exact hvl, rfl, z_lt2 hlt⟩
            case sb1 =>
              rw [cr_i, isubS]
              (first | exact subI | (((try dsimp only [lexM, lexO, rdM, rdP, lexD, strD, List.cons_append, List.nil_append])); first | walk_at "ALLIN" | walk_at "SUBALL"))
          · walk1
            try dsimp only
            simp only [if_true]
            rename (Obj.data _ = Data.cell (some (Value.ref _))) => dT2
            rename (Obj.data _ = Data.cell (some (Value.int (i : Int) _))) => dP2
            clear hT hys13 lt13 hys9
            walk1
            try dsimp only
            walk1
            try dsimp only
            walk1
            try dsimp only
            walk1
            try dsimp only
            walk1
            try dsimp only
            walk1
            try dsimp only
            walk1
            try dsimp only
            walk1
            try dsimp only
            walk1
            try dsimp only
            rename News _ _ _ _ => NN
            rename Fr _ _ _ _ => FF
            k_here
            k_dflt (refine' appendL (D := LL) (vs := vl) (n := kl) (news := [(LL, W.listOf vl.toArray kl), (J', rgI ((i : Int) + 1) (Z - (i : Int) - 1)), (L' + 1 + 1 + 1, _), (L' + 1 + 1, _), (L' + 1, oS1), (WL, W.listOf vs.toArray kw)]) FF (newsSub NN ?sb2) (.head ?hd2) (left_small hvl (z_lt2 hlt) hZ2) ?_; k_whole)
            case sb2 => (first | exact subI | (((try dsimp only [lexM, lexO, rdM, rdP, lexD, strD, List.cons_append, List.nil_append])); first | walk_at "ALLIN" | walk_at "SUBALL"))
            case hd2 => k_all
            intro h14 F14 N14
            try dsimp only
            walk1
            try dsimp only
            walk1
            try dsimp only
            have hfi := left_yes hlo
            refine kOut hIv ?_
            refine ⟨Z.toNat - (i + 1), nsubS (z_lt2 hlt), _, _, i + 1, oS1, _, _, _, _, vl ++ [Value.int (i : Int) tk1], kl + 1, rfl, ⟨_, F14, rfl⟩, newsSub N14 ?sb1, dS, dP2, dT2, ltJ, by rw [hfi]; exact IntsAre.append hvl (.cons _ _ .nil), rfl, z_lt2 hlt⟩
            case sb1 =>
              rw [cr_i, isubS]
              (first | exact subI | (((try dsimp only [lexM, lexO, rdM, rdP, lexD, strD, List.cons_append, List.nil_append])); first | walk_at "ALLIN" | walk_at "SUBALL"))
    · have hie : i = Z.toNat := z_eq2 hle hi1
      subst hie
      clear F2 N1
      (repeat' (first | (k_unfold; (try dsimp only)) | (k_end; wrow_close) | ((((fail_if_success (with_reducible show wpAny _ _ (exec (Stmt.For _ _ _ _ _) _) _ _ _)); (fail_if_success (with_reducible show wpAny _ _ (exec (Stmt.While _ _ _ _) _) _ _ _)); (fail_if_success (with_reducible show Exists _)); (fail_if_success (with_reducible show wpAny _ _ (eval (Expr.ListComp _ _ _ _) _) _ _ _)); (fail_if_success (with_reducible show LCg.CompSrc _ _ _ _ _ _ _ _ _ _ _ _ _ _)); (fail_if_success (with_reducible show LCt.CompSrcT _ _ _ _ _ _ _ _ _ _ _ _ _ _ _)); (fail_if_success ((with_reducible refine stopAt ?gdK ?gdH); (case gdK => exact rfl))))); (try (rename News _ _ _ _ => nN; dsimp only at nN)); walk1) | ((((fail_if_success (with_reducible show wpAny _ _ (exec (Stmt.For _ _ _ _ _) _) _ _ _)); (fail_if_success (with_reducible show wpAny _ _ (exec (Stmt.While _ _ _ _) _) _ _ _)); (fail_if_success (with_reducible show Exists _)); (fail_if_success (with_reducible show wpAny _ _ (eval (Expr.ListComp _ _ _ _) _) _ _ _)); (fail_if_success (with_reducible show LCg.CompSrc _ _ _ _ _ _ _ _ _ _ _ _ _ _)); (fail_if_success (with_reducible show LCt.CompSrcT _ _ _ _ _ _ _ _ _ _ _ _ _ _ _)); (fail_if_success ((with_reducible refine stopAt ?gdK ?gdH); (case gdK => exact rfl))))); dsimp only; walk1) | (leave1; walk_say "STEP leave1"; try dsimp only) | fail "no step"))
      rename News h₀ _ _ _ => NE
      rename News g' _ _ _ => NG
      exact hret _ _ _ _ ⟨LL, kl, vl, rfl, hvl, rfl⟩ (by assumption) (newsSub NE (by (first | exact subI | (((try dsimp only [lexM, lexO, rdM, rdP, lexD, strD, List.cons_append, List.nil_append])); first | walk_at "ALLIN" | walk_at "SUBALL")))) (Keep.fr Kg (by assumption)) (Keep.fresh Kg (newsSub NG (by (first | exact subI | (((try dsimp only [lexM, lexO, rdM, rdP, lexD, strD, List.cons_append, List.nil_append])); first | walk_at "ALLIN" | walk_at "SUBALL")))))
end Mine

-- part Du
section
local macro_rules | `(tactic| k_all) => `(tactic| (rename (∀ r ∈ recsLed _ _, (@Ne Nat r.1 _) ∧ (@Ne Nat r.1 _)) => hR; first | exact fun q hq => (hR q hq).1 | exact fun q hq => (hR q hq).2))
namespace Mine
theorem mul_dots (n : Nat) {k : Int} (h : k = ((n : Nat) : Int)) : Txt.mul (Str.ofString ".") k = dots n := by
  subst h
  refine str_ext ?_
  rw [mul_one _ 46 (by decide)]
  simp [dots]
theorem toI_get {ws : List Nat} {i : Nat} {z : Int} (h : (toI ws)[i]? = some z) : ∃ w : Nat, ws[i]? = some w ∧ z = (w : Int) := by
  rw [List.getElem?_map] at h
  cases e : ws[i]? with
  | none => rw [e] at h; simp at h
  | some x => rw [e] at h; exact ⟨x, rfl, by simpa using h.symm⟩
/-- what is due -/
inductive DuP (Z : Int) (ws : List Nat) (p0 F0 : Int) (WL : Nat) (vs : List Value) (kw : Nat) (r : Value) (post : List (Addr × Obj)) : Prop
  | mk (DL kD : Nat) (recs : List TRec) (er : r = .ref DL) (hrec : RecsOk Z ws p0 F0 recs) (hrl : recs.length = Z.toNat) (ep : post = (DL, W.listOf (recsVal recs).toArray kD) :: (WL, W.listOf vs.toArray kw) :: recsLed Z recs)
inductive DuI (Z : Int) (ws : List Nat) (p0 F0 : Int) (WL FL DL : Nat) (vs : List Value) (kw kf tp : Nat) (oS oW : Obj) (s : Shared) (g : Heap) (L : Nat) (J : Addr) (k : Nat) (s1 : Shared) : Prop
  | mk (h1 : Heap) (tk1 i tf kD : Nat) (oT1 : Obj) (vT : Option Value) (recs : List TRec) (e : s1 = { s with heap := h1, toks := tk1 }) (F : FrAt g L h1 [("left", .ref FL), ("far", .int F0 tf), ("due", .ref DL)])
    (N : News g L h1 ((J, rgI (1 + (i : Int)) (Z - (i : Int))) :: (DL, W.listOf (recsVal recs).toArray kD) :: (FL, W.listOf #[.int p0 tp] kf) :: (WL, W.listOf vs.toArray kw) :: (L + 1 + 1 + 1, oT1) :: (L + 1 + 1, oS) :: (L + 1, oW) :: recsLed Z recs)) (dT1 : oT1.data = .cell vT)
    (ltJ : AL J [DL, FL, WL, L + 1 + 1 + 1, L + 1 + 1, L + 1]) (hrec : RecsOk Z ws p0 F0 recs) (hrl : recs.length = i) (hRL : ∀ q ∈ recsLed Z recs, (@Ne Nat q.1 DL) ∧ (@Ne Nat q.1 (L + 1 + 1 + 1))) (ek : k = Z.toNat - i) (hi : i ≤ Z.toNat)
theorem ws_in {ws : List Nat} {Z : Int} (hw : ∀ x ∈ ws, (x : Int) < Z) : ∀ z ∈ toI ws, 0 ≤ z ∧ z < Z := fun z hz => by
  obtain ⟨x, hx, rfl⟩ := List.mem_map.mp hz
  have := hw x hx
  omega
theorem due_sum {Z p0 : Int} {ws : List Nat} (hZ : 0 < Z) : ((toI ws).map fun z => (z - p0 - 1).fmod Z).sum = phiSum Z p0 (toI ws) := by
  unfold phiSum
  congr 1
  refine List.map_congr_left fun z _ => ?_
  show (z - p0 - 1).fmod Z = (z - p0 - 1) % Z
  exact Int.fmod_eq_emod_of_nonneg _ (by omega)
theorem due_far {Z p0 F0 a : Int} {ws : List Nat} (h : a = phiSum Z p0 (toI ws)) (hF : 2 * (F0 + phiSum Z p0 (toI ws)) = (Z - 1) * (Z - 2)) : ((Z - 1) * (Z - 2)).fdiv 2 - a = F0 := by
  rw [h, ← hF, Int.mul_fdiv_cancel_left _ (by decide)]; omega
theorem due_pp {Z p0 : Int} (i : Nat) (hZ : 0 < Z) : (p0 + (1 + (i : Int))).fmod Z = (p0 + ((i + 1 : Nat) : Int)) % Z := by
  rw [Int.fmod_eq_emod_of_nonneg _ (by omega), show (1 : Int) + (i : Int) = ((i + 1 : Nat) : Int) by omega]
theorem due_dec {Z a b : Int} (h : a = b) : decide ([a] = [Z - 1]) = decide (b = Z - 1) := by rw [h]; simp
theorem one_int' {vsf : List Value} {pp : Int} (h : IntsAre vsf [pp]) : ∃ tq, vsf = [.int pp tq] := by
  cases h with
  | cons _ t h => cases h with
    | nil => exact ⟨t, rfl⟩
theorem recs_led {Z : Int} {r : TRec} {recs : List TRec} {P : Nat → Prop} (h : ∀ q ∈ recsLed Z recs, P q.1) (h1 : P r.RT) (h2 : P r.RL) (h3 : P r.FL) : ∀ q ∈ recsLed Z (recs ++ [r]), P q.1 := by
  intro q hq
  rw [recsLed_snoc] at hq
  rcases List.mem_append.mp hq with h' | h'
  · exact h q h'
  · simp only [TRec.led, List.mem_cons, List.not_mem_nil, or_false] at h'
    rcases h' with rfl | rfl | rfl
    · exact h1
    · exact h2
    · exact h3
theorem recs_sub {Z : Int} {r : TRec} {recs : List TRec} {l : List (Addr × Obj)} (h : ∀ q ∈ recsLed Z recs, q ∈ l) (h1 : ∀ q ∈ r.led Z, q ∈ l) : ∀ q ∈ recsLed Z (recs ++ [r]), q ∈ l := by
  intro q hq
  rw [recsLed_snoc] at hq
  exact (List.mem_append.mp hq).elim (h q) (h1 q)
theorem rg_zero' (Z : Int) : rgI (1 + ((0 : Nat) : Int)) (Z - ((0 : Nat) : Int)) = rgI 1 (Z + 1 - 1) := by rw [show (1 : Int) + ((0 : Nat) : Int) = 1 by omega, show Z - ((0 : Nat) : Int) = Z + 1 - 1 by omega]
theorem rg_succ' (Z : Int) (i : Nat) : (1 : Int) + ((i + 1 : Nat) : Int) = 1 + (i : Int) + 1 ∧ Z - ((i + 1 : Nat) : Int) = Z - (i : Int) - 1 := by omega
theorem ws_small {ws : List Nat} {Z : Int} (hZ : (ws.length : Int) + 1 = Z) (hZ2 : 4 ≤ Z ∧ Z ≤ 7) : ws.length < 7 := by omega
theorem due_dots (wn i : Nat) : (wn : Int) + 1 + (1 + (i : Int)) = ((wn + (i + 1) + 1 : Nat) : Int) := by omega
theorem due_room {i : Nat} {Z : Int} (h : i < Z.toNat) (hZ2 : 4 ≤ Z ∧ Z ≤ 7) : i < 2 ^ 20 := by omega
theorem due_call (w : World) (WL : Nat) (vs : List Value) (ws : List Nat) (kw : Nat) (Z : Int) (tz : Tok) (hi : IntsAre vs (toI ws)) (hZ : (ws.length : Int) + 1 = Z) (hZ2 : 4 ≤ Z ∧ Z ≤ 7) (hw : ∀ x ∈ ws, (x : Int) < Z)
    (p0 F0 : Int) (h0 : 0 ≤ p0 ∧ p0 < Z) (hlo : leftOk Z (toI ws) p0 = true) (hF : 2 * (F0 + phiSum Z p0 (toI ws)) = (Z - 1) * (Z - 2)) :
    Call w 10 500 (.ref 167) [.ref WL, .int Z tz] [(WL, W.listOf vs.toArray kw)] (DuP Z ws p0 F0 WL vs kw) := by
  unfold Call
  intro p loose mean mg mb dp un gd cn cs b ccd cl outer A₀ base h₀ L m s Q E B F X C N T hcs hd hu hret
  have hW := ws_in hw
  have hsz := ws_sz hZ hZ2
  have hone := left_one hW (by simpa using hZ) h0 hlo
  ((k_dflt (refine' code_defCK ?k1 ?k2 ?k3 ?kC ?k4 ?k5 ?kA ?kF ?kK ?k6 ?k7 ?k8 ?k9 ?kB ?kD ?_ ?c2 ?c3 ?c4; (case kA => exact rfl); (case kF => exact rfl); (case kK => assumption); (case k1 => k_asm); (case k2 => k_asm); (case k3 => k_asm); (case kC => k_asm); (case k4 => k_asm); (case k5 => k_asm); (case k6 => k_is); (case k7 => k_is); (case k8 => k_room); (case k9 => first | exact BindsTo.of_eq rfl | (refine' kp_binds ?kx ?ke; (case kx => k_in); (case ke => exact fun _ => rfl))); (case kB => exact rfl); (case kD => decide +kernel); (case c2 => exact rfl); (case c3 => exact rfl); (case c4 => exact rfl); k_whole)))
  intro g' L' h' tk' cells' FG' F' N' Y' B' X' T' C' Kg l1
  k_lt l1
  k_cells Y'
  rename_i oT oS oW dT dS dW
  have dS' : oS.data = .cell (some (.int Z tz)) := dS
  have dW' : oW.data = .cell (some (.ref WL)) := dW
  have dT' : oT.data = .cell none := dT
  clear dS dW dT
  simp only [List.cons_append, List.nil_append] at N'
  (try dsimp only); (try k_fold)
  (repeat' (first | (k_unfold; (try dsimp only)) | (k_end; wrow_close) | ((((fail_if_success (with_reducible show wpAny _ _ (exec (Stmt.For _ _ _ _ _) _) _ _ _)); (fail_if_success (with_reducible show wpAny _ _ (exec (Stmt.While _ _ _ _) _) _ _ _)); (fail_if_success (with_reducible show Exists _)); (fail_if_success (with_reducible show wpAny _ _ (eval (Expr.ListComp _ _ _ _) _) _ _ _)); (fail_if_success (with_reducible show LCg.CompSrc _ _ _ _ _ _ _ _ _ _ _ _ _ _)); (fail_if_success (with_reducible show LCt.CompSrcT _ _ _ _ _ _ _ _ _ _ _ _ _ _ _)); (fail_if_success ((with_reducible refine stopAt ?gdK ?gdH); (case gdK => exact rfl))))); (try (rename News _ _ _ _ => nN; dsimp only at nN)); walk1) | ((((fail_if_success (with_reducible show wpAny _ _ (exec (Stmt.For _ _ _ _ _) _) _ _ _)); (fail_if_success (with_reducible show wpAny _ _ (exec (Stmt.While _ _ _ _) _) _ _ _)); (fail_if_success (with_reducible show Exists _)); (fail_if_success (with_reducible show wpAny _ _ (eval (Expr.ListComp _ _ _ _) _) _ _ _)); (fail_if_success (with_reducible show LCg.CompSrc _ _ _ _ _ _ _ _ _ _ _ _ _ _)); (fail_if_success (with_reducible show LCt.CompSrcT _ _ _ _ _ _ _ _ _ _ _ _ _ _ _)); (fail_if_success ((with_reducible refine stopAt ?gdK ?gdH); (case gdK => exact rfl))))); dsimp only; walk1) | (leave1; walk_say "STEP leave1"; try dsimp only) | fail "no step"))
  rename News _ _ _ _ => NN
  rename Fr _ _ _ _ => FF
  refine' Call.use (left_call w WL vs ws kw Z _ hi hZ hZ2 hw) (rest := [(L' + 1 + 1 + 1, oT), (L' + 1 + 1, oS), (L' + 1, oW)]) ?B ?F ?X ?C ?N ?T ?hs ?hr ?ho ?hk ?hd ?hu ?_
  (((case B => assumption); (case F => assumption); (case X => assumption); (case C => assumption); (case N => assumption); (case T => assumption); (case hs => (first | exact subI | (((try dsimp only [lexM, lexO, rdM, rdP, lexD, strD, List.cons_append, List.nil_append])); first | walk_at "ALLIN" | walk_at "SUBALL"))); (case hr => (first | exact subI | (((try dsimp only [lexM, lexO, rdM, rdP, lexD, strD, List.cons_append, List.nil_append])); first | walk_at "ALLIN" | walk_at "SUBALL"))); (case ho => first | walk_at "OFF" | (((try dsimp only [lexM, lexO, rdM, rdP, lexD, strD, List.cons_append, List.nil_append])); walk_at "OFF")); (case hk => first | exact rfl | assumption); (case hd => ktr_room); (case hu => ktr_units)))
  rintro _ _ h2 tk2 ⟨FL, kf, vl, rfl, hvl, rfl⟩ F2 N2 K2 Z2
  rw [hone] at hvl
  obtain ⟨tp, rfl⟩ := one_int' hvl
  have hFLT : FL ≠ L' + 1 + 1 + 1 := newsNe N2 N2 (a := FL) (b := L' + 1 + 1 + 1) (o' := oT) (.head _) (.tail _ (.tail _ (.head _))) (fun e => by rw [← e] at dT'; cases dT')
  clear FF NN K2
  simp only [List.cons_append, List.nil_append] at N2
  (try dsimp only); (try k_fold)
  (repeat' (first | (k_unfold; (try dsimp only)) | (k_end; wrow_close) | (((((((fail_if_success (with_reducible show wpAny _ _ (exec (Stmt.For _ _ _ _ _) _) _ _ _)); (fail_if_success (with_reducible show wpAny _ _ (exec (Stmt.While _ _ _ _) _) _ _ _)); (fail_if_success (with_reducible show Exists _)); (fail_if_success (with_reducible show wpAny _ _ (eval (Expr.ListComp _ _ _ _) _) _ _ _)); (fail_if_success (with_reducible show LCg.CompSrc _ _ _ _ _ _ _ _ _ _ _ _ _ _)); (fail_if_success (with_reducible show LCt.CompSrcT _ _ _ _ _ _ _ _ _ _ _ _ _ _ _)); (fail_if_success ((with_reducible refine stopAt ?gdK ?gdH); (case gdK => exact rfl)))))); (fail_if_success (with_reducible show wpAny _ _ (exec (Stmt.Assign _ (Expr.ListComp _ _ _ _) _) _) _ _ _)); (fail_if_success (with_reducible show wpAny _ _ (compareOp CmpOp.Eq (Value.ref _) (Value.ref _)) _ _ _)))); walk1) | (((((((fail_if_success (with_reducible show wpAny _ _ (exec (Stmt.For _ _ _ _ _) _) _ _ _)); (fail_if_success (with_reducible show wpAny _ _ (exec (Stmt.While _ _ _ _) _) _ _ _)); (fail_if_success (with_reducible show Exists _)); (fail_if_success (with_reducible show wpAny _ _ (eval (Expr.ListComp _ _ _ _) _) _ _ _)); (fail_if_success (with_reducible show LCg.CompSrc _ _ _ _ _ _ _ _ _ _ _ _ _ _)); (fail_if_success (with_reducible show LCt.CompSrcT _ _ _ _ _ _ _ _ _ _ _ _ _ _ _)); (fail_if_success ((with_reducible refine stopAt ?gdK ?gdH); (case gdK => exact rfl)))))); (fail_if_success (with_reducible show wpAny _ _ (exec (Stmt.Assign _ (Expr.ListComp _ _ _ _) _) _) _ _ _)); (fail_if_success (with_reducible show wpAny _ _ (compareOp CmpOp.Eq (Value.ref _) (Value.ref _)) _ _ _)))); dsimp only; walk1) | (leave1; walk_say "STEP leave1"; try dsimp only) | fail "no step"))
  rename News _ _ _ _ => NN
  rename Fr _ _ _ _ => FF
  have hvs : vs.toArray.size = ws.length := hi.length.trans (List.length_map ..)
  k_here
  k_dflt (refine Assign_two FF rfl (by rfl) (by rfl) (by rfl) (fun i ys => IntsAre ys (((toI ws).take i).map fun z => (z - p0 - 1).fmod Z)) .nil rfl (by rfl) (by rfl) (by decide) (fun _ => rfl) (fun _ => rfl) (by decide) (fun _ => rfl) (fun _ => rfl) ?_)
  (repeat' (first | (k_unfold; (try dsimp only)) | (k_end; wrow_close) | (((((((fail_if_success (with_reducible show wpAny _ _ (exec (Stmt.For _ _ _ _ _) _) _ _ _)); (fail_if_success (with_reducible show wpAny _ _ (exec (Stmt.While _ _ _ _) _) _ _ _)); (fail_if_success (with_reducible show Exists _)); (fail_if_success (with_reducible show wpAny _ _ (eval (Expr.ListComp _ _ _ _) _) _ _ _)); (fail_if_success (with_reducible show LCg.CompSrc _ _ _ _ _ _ _ _ _ _ _ _ _ _)); (fail_if_success (with_reducible show LCt.CompSrcT _ _ _ _ _ _ _ _ _ _ _ _ _ _ _)); (fail_if_success ((with_reducible refine stopAt ?gdK ?gdH); (case gdK => exact rfl)))))); (fail_if_success (with_reducible show wpAny _ _ (exec (Stmt.Assign _ (Expr.ListComp _ _ _ _) _) _) _ _ _)); (fail_if_success (with_reducible show wpAny _ _ (compareOp CmpOp.Eq (Value.ref _) (Value.ref _)) _ _ _)))); walk1) | (((((((fail_if_success (with_reducible show wpAny _ _ (exec (Stmt.For _ _ _ _ _) _) _ _ _)); (fail_if_success (with_reducible show wpAny _ _ (exec (Stmt.While _ _ _ _) _) _ _ _)); (fail_if_success (with_reducible show Exists _)); (fail_if_success (with_reducible show wpAny _ _ (eval (Expr.ListComp _ _ _ _) _) _ _ _)); (fail_if_success (with_reducible show LCg.CompSrc _ _ _ _ _ _ _ _ _ _ _ _ _ _)); (fail_if_success (with_reducible show LCt.CompSrcT _ _ _ _ _ _ _ _ _ _ _ _ _ _ _)); (fail_if_success ((with_reducible refine stopAt ?gdK ?gdH); (case gdK => exact rfl)))))); (fail_if_success (with_reducible show wpAny _ _ (exec (Stmt.Assign _ (Expr.ListComp _ _ _ _) _) _) _ _ _)); (fail_if_success (with_reducible show wpAny _ _ (compareOp CmpOp.Eq (Value.ref _) (Value.ref _)) _ _ _)))); dsimp only; walk1) | (leave1; walk_say "STEP leave1"; try dsimp only) | fail "no step"))
  rename News _ _ _ _ => NN
  rename Fr _ _ _ _ => FF
  refine ⟨FL, .int p0 tp, kf, WL, vs.toArray, kw, _, rfl, FF, NN, .head _, .tail _ (.head _), by rw [hvs]; exact Nat.lt_of_le_of_lt (Nat.le_of_lt (ws_small hZ hZ2)) (by decide), ?_, ?_, ?_⟩
  · intro I0 o0 C oC m₂ D h tk Q' E' hC F3 N3 hq
    walk1
    exact hq
  · intro i v I1 o1 I0 o0 C oC D m₂ ys h tk E' hi2 hG hv hC hmx hmy F3 N3
    obtain ⟨z3, t3, rfl, hz3⟩ := intsGet hi i v (by simpa using hv)
    have hz4 := hW z3 (List.mem_of_getElem? hz3)
    (repeat' (first | (k_unfold; (try dsimp only)) | (k_end; wrow_close) | (((((((fail_if_success (with_reducible show wpAny _ _ (exec (Stmt.For _ _ _ _ _) _) _ _ _)); (fail_if_success (with_reducible show wpAny _ _ (exec (Stmt.While _ _ _ _) _) _ _ _)); (fail_if_success (with_reducible show Exists _)); (fail_if_success (with_reducible show wpAny _ _ (eval (Expr.ListComp _ _ _ _) _) _ _ _)); (fail_if_success (with_reducible show LCg.CompSrc _ _ _ _ _ _ _ _ _ _ _ _ _ _)); (fail_if_success (with_reducible show LCt.CompSrcT _ _ _ _ _ _ _ _ _ _ _ _ _ _ _)); (fail_if_success ((with_reducible refine stopAt ?gdK ?gdH); (case gdK => exact rfl)))))); (fail_if_success (with_reducible show wpAny _ _ (exec (Stmt.Assign _ (Expr.ListComp _ _ _ _) _) _) _ _ _)); (fail_if_success (with_reducible show wpAny _ _ (compareOp CmpOp.Eq (Value.ref _) (Value.ref _)) _ _ _)))); walk1) | (((((((fail_if_success (with_reducible show wpAny _ _ (exec (Stmt.For _ _ _ _ _) _) _ _ _)); (fail_if_success (with_reducible show wpAny _ _ (exec (Stmt.While _ _ _ _) _) _ _ _)); (fail_if_success (with_reducible show Exists _)); (fail_if_success (with_reducible show wpAny _ _ (eval (Expr.ListComp _ _ _ _) _) _ _ _)); (fail_if_success (with_reducible show LCg.CompSrc _ _ _ _ _ _ _ _ _ _ _ _ _ _)); (fail_if_success (with_reducible show LCt.CompSrcT _ _ _ _ _ _ _ _ _ _ _ _ _ _ _)); (fail_if_success ((with_reducible refine stopAt ?gdK ?gdH); (case gdK => exact rfl)))))); (fail_if_success (with_reducible show wpAny _ _ (exec (Stmt.Assign _ (Expr.ListComp _ _ _ _) _) _) _ _ _)); (fail_if_success (with_reducible show wpAny _ _ (compareOp CmpOp.Eq (Value.ref _) (Value.ref _)) _ _ _)))); dsimp only; walk1) | (leave1; walk_say "STEP leave1"; try dsimp only) | fail "no step"))
    exact ⟨_, _, rfl, by assumption, by assumption, by rw [takeSnoc hz3, List.map_append]; exact IntsAre.append hG (.cons _ _ .nil)⟩
  · intro D ys h tk hG F3 N3 lt3
    clear NN FF
    rw [hvs, List.take_of_length_le (by simp)] at hG
    have hsum := due_sum (p0 := p0) (ws := ws) hsz.2.2.1
    generalize ((toI ws).map fun z => (z - p0 - 1).fmod Z) = phs at hG hsum
    replace lt3 := AL.of lt3
    dsimp only [List.map] at lt3
    (repeat' (first | (k_unfold; (try dsimp only)) | (k_end; wrow_close) | (((((((fail_if_success (with_reducible show wpAny _ _ (exec (Stmt.For _ _ _ _ _) _) _ _ _)); (fail_if_success (with_reducible show wpAny _ _ (exec (Stmt.While _ _ _ _) _) _ _ _)); (fail_if_success (with_reducible show Exists _)); (fail_if_success (with_reducible show wpAny _ _ (eval (Expr.ListComp _ _ _ _) _) _ _ _)); (fail_if_success (with_reducible show LCg.CompSrc _ _ _ _ _ _ _ _ _ _ _ _ _ _)); (fail_if_success (with_reducible show LCt.CompSrcT _ _ _ _ _ _ _ _ _ _ _ _ _ _ _)); (fail_if_success ((with_reducible refine stopAt ?gdK ?gdH); (case gdK => exact rfl)))))); (fail_if_success (with_reducible show wpAny _ _ (exec (Stmt.Assign _ (Expr.ListComp _ _ _ _) _) _) _ _ _)); (fail_if_success (with_reducible show wpAny _ _ (compareOp CmpOp.Eq (Value.ref _) (Value.ref _)) _ _ _)))); walk1) | (((((((fail_if_success (with_reducible show wpAny _ _ (exec (Stmt.For _ _ _ _ _) _) _ _ _)); (fail_if_success (with_reducible show wpAny _ _ (exec (Stmt.While _ _ _ _) _) _ _ _)); (fail_if_success (with_reducible show Exists _)); (fail_if_success (with_reducible show wpAny _ _ (eval (Expr.ListComp _ _ _ _) _) _ _ _)); (fail_if_success (with_reducible show LCg.CompSrc _ _ _ _ _ _ _ _ _ _ _ _ _ _)); (fail_if_success (with_reducible show LCt.CompSrcT _ _ _ _ _ _ _ _ _ _ _ _ _ _ _)); (fail_if_success ((with_reducible refine stopAt ?gdK ?gdH); (case gdK => exact rfl)))))); (fail_if_success (with_reducible show wpAny _ _ (exec (Stmt.Assign _ (Expr.ListComp _ _ _ _) _) _) _ _ _)); (fail_if_success (with_reducible show wpAny _ _ (compareOp CmpOp.Eq (Value.ref _) (Value.ref _)) _ _ _)))); dsimp only; walk1) | (leave1; walk_say "STEP leave1"; try dsimp only) | fail "no step"))
    rename News _ _ _ _ => NN
    rename Fr _ _ _ _ => FF
    have hfar := due_far hsum hF
    rw [hfar] at FF
    rename_i DL _ lt1 _
    refine for_invO (DuI Z ws p0 F0 WL FL DL vs kw kf tp oS oW s g' L') (fun Iv hIv => ?_) (fun Iv hIv => ?_)
    · (repeat' (first | (k_unfold; (try dsimp only)) | (k_end; wrow_close) | (((((((fail_if_success (with_reducible show wpAny _ _ (exec (Stmt.For _ _ _ _ _) _) _ _ _)); (fail_if_success (with_reducible show wpAny _ _ (exec (Stmt.While _ _ _ _) _) _ _ _)); (fail_if_success (with_reducible show Exists _)); (fail_if_success (with_reducible show wpAny _ _ (eval (Expr.ListComp _ _ _ _) _) _ _ _)); (fail_if_success (with_reducible show LCg.CompSrc _ _ _ _ _ _ _ _ _ _ _ _ _ _)); (fail_if_success (with_reducible show LCt.CompSrcT _ _ _ _ _ _ _ _ _ _ _ _ _ _ _)); (fail_if_success ((with_reducible refine stopAt ?gdK ?gdH); (case gdK => exact rfl)))))); (fail_if_success (with_reducible show wpAny _ _ (exec (Stmt.Assign _ (Expr.ListComp _ _ _ _) _) _) _ _ _)); (fail_if_success (with_reducible show wpAny _ _ (compareOp CmpOp.Eq (Value.ref _) (Value.ref _)) _ _ _)))); walk1) | (((((((fail_if_success (with_reducible show wpAny _ _ (exec (Stmt.For _ _ _ _ _) _) _ _ _)); (fail_if_success (with_reducible show wpAny _ _ (exec (Stmt.While _ _ _ _) _) _ _ _)); (fail_if_success (with_reducible show Exists _)); (fail_if_success (with_reducible show wpAny _ _ (eval (Expr.ListComp _ _ _ _) _) _ _ _)); (fail_if_success (with_reducible show LCg.CompSrc _ _ _ _ _ _ _ _ _ _ _ _ _ _)); (fail_if_success (with_reducible show LCt.CompSrcT _ _ _ _ _ _ _ _ _ _ _ _ _ _ _)); (fail_if_success ((with_reducible refine stopAt ?gdK ?gdH); (case gdK => exact rfl)))))); (fail_if_success (with_reducible show wpAny _ _ (exec (Stmt.Assign _ (Expr.ListComp _ _ _ _) _) _) _ _ _)); (fail_if_success (with_reducible show wpAny _ _ (compareOp CmpOp.Eq (Value.ref _) (Value.ref _)) _ _ _)))); dsimp only; walk1) | (leave1; walk_say "STEP leave1"; try dsimp only) | fail "no step"))
      rename News _ _ _ _ => NE
      rename Fr _ _ _ _ => FE
      rename_i IT1 _ lt9
      refine kOut0 hIv ?_
      refine ⟨IT1, Z.toNat, rfl, _, _, 0, _, 0, oT, _, [], rfl, ⟨_, FE, rfl⟩, newsSub NE (fun q hq => ?_), dT', lt9.sub (by first | walk_at "ALLIN" | walk_at "SUBALL"), fun k r hr => by simp at hr, rfl, fun q hq => by simp [recsLed] at hq, rfl, Nat.zero_le _⟩
      rw [rg_zero'] at hq
      revert hq; revert q
      walk_at "SUBL"
    · clear NN FF dT'
      rintro J' k s1 ⟨h1, tk1, i, tf, kD, oT1, vT, recs, rfl, F1, N1, dT1, ltJ, hrec, hrl, hRL, rfl, hi1⟩
      refine F1.use fun m1 F2 => ?_
      clear F1
      have hoffJ : ∀ q ∈ (DL, W.listOf (recsVal recs).toArray kD) :: (FL, W.listOf #[.int p0 tp] kf) :: (WL, W.listOf vs.toArray kw) :: (L' + 1 + 1 + 1, oT1) :: (L' + 1 + 1, oS) :: (L' + 1, oW) :: recsLed Z recs, q.1 ≠ J' := by
        refine neC (by walk_at "NE") (neC (by walk_at "NE") (neC (by walk_at "NE") (neC (by walk_at "NE") (neC (by walk_at "NE") (neC (by walk_at "NE") fun q hq => ?_)))))
        refine newsNe N1 N1 (a := q.1) (o := q.2) (by simp [hq]) (.head _) ?_
        obtain ⟨its, n, e⟩ := recsLed_isL q hq
        rw [e]; simp [rgI]
      refine range_next rfl F2 N1 hoffJ (fun hlt h3 F3 N3 => ?_) (fun hle h3 F3 N3 => ?_)
      · clear F2 N1
        (repeat' (first | (k_unfold; (try dsimp only)) | (k_end; wrow_close) | (((((((fail_if_success (with_reducible show wpAny _ _ (exec (Stmt.For _ _ _ _ _) _) _ _ _)); (fail_if_success (with_reducible show wpAny _ _ (exec (Stmt.While _ _ _ _) _) _ _ _)); (fail_if_success (with_reducible show Exists _)); (fail_if_success (with_reducible show wpAny _ _ (eval (Expr.ListComp _ _ _ _) _) _ _ _)); (fail_if_success (with_reducible show LCg.CompSrc _ _ _ _ _ _ _ _ _ _ _ _ _ _)); (fail_if_success (with_reducible show LCt.CompSrcT _ _ _ _ _ _ _ _ _ _ _ _ _ _ _)); (fail_if_success ((with_reducible refine stopAt ?gdK ?gdH); (case gdK => exact rfl)))))); (fail_if_success (with_reducible show wpAny _ _ (exec (Stmt.Assign _ (Expr.ListComp _ _ _ _) _) _) _ _ _)); (fail_if_success (with_reducible show wpAny _ _ (compareOp CmpOp.Eq (Value.ref _) (Value.ref _)) _ _ _)))); walk1) | (((((((fail_if_success (with_reducible show wpAny _ _ (exec (Stmt.For _ _ _ _ _) _) _ _ _)); (fail_if_success (with_reducible show wpAny _ _ (exec (Stmt.While _ _ _ _) _) _ _ _)); (fail_if_success (with_reducible show Exists _)); (fail_if_success (with_reducible show wpAny _ _ (eval (Expr.ListComp _ _ _ _) _) _ _ _)); (fail_if_success (with_reducible show LCg.CompSrc _ _ _ _ _ _ _ _ _ _ _ _ _ _)); (fail_if_success (with_reducible show LCt.CompSrcT _ _ _ _ _ _ _ _ _ _ _ _ _ _ _)); (fail_if_success ((with_reducible refine stopAt ?gdK ?gdH); (case gdK => exact rfl)))))); (fail_if_success (with_reducible show wpAny _ _ (exec (Stmt.Assign _ (Expr.ListComp _ _ _ _) _) _) _ _ _)); (fail_if_success (with_reducible show wpAny _ _ (compareOp CmpOp.Eq (Value.ref _) (Value.ref _)) _ _ _)))); dsimp only; walk1) | (leave1; walk_say "STEP leave1"; try dsimp only) | fail "no step"))
        rename News _ _ _ _ => NN
        rename Fr _ _ _ _ => FF
        rename (Obj.data _ = Data.cell (some (Value.int (1 + (i : Int)) _))) => dT2
        k_here
        k_dflt (refine LCg.Assign_ListComp_U (F₀ := by k_asm) (by rfl) (by with_unfolding_all rfl) (by with_unfolding_all rfl) (by decide) (by rfl) (by decide) (by rfl) (by rfl) (by rfl) ?_)
        (repeat' (first | (k_unfold; (try dsimp only)) | (k_end; wrow_close) | (((((((fail_if_success (with_reducible show wpAny _ _ (exec (Stmt.For _ _ _ _ _) _) _ _ _)); (fail_if_success (with_reducible show wpAny _ _ (exec (Stmt.While _ _ _ _) _) _ _ _)); (fail_if_success (with_reducible show Exists _)); (fail_if_success (with_reducible show wpAny _ _ (eval (Expr.ListComp _ _ _ _) _) _ _ _)); (fail_if_success (with_reducible show LCg.CompSrc _ _ _ _ _ _ _ _ _ _ _ _ _ _)); (fail_if_success (with_reducible show LCt.CompSrcT _ _ _ _ _ _ _ _ _ _ _ _ _ _ _)); (fail_if_success ((with_reducible refine stopAt ?gdK ?gdH); (case gdK => exact rfl)))))); (fail_if_success (with_reducible show wpAny _ _ (exec (Stmt.Assign _ (Expr.ListComp _ _ _ _) _) _) _ _ _)); (fail_if_success (with_reducible show wpAny _ _ (compareOp CmpOp.Eq (Value.ref _) (Value.ref _)) _ _ _)))); walk1) | (((((((fail_if_success (with_reducible show wpAny _ _ (exec (Stmt.For _ _ _ _ _) _) _ _ _)); (fail_if_success (with_reducible show wpAny _ _ (exec (Stmt.While _ _ _ _) _) _ _ _)); (fail_if_success (with_reducible show Exists _)); (fail_if_success (with_reducible show wpAny _ _ (eval (Expr.ListComp _ _ _ _) _) _ _ _)); (fail_if_success (with_reducible show LCg.CompSrc _ _ _ _ _ _ _ _ _ _ _ _ _ _)); (fail_if_success (with_reducible show LCt.CompSrcT _ _ _ _ _ _ _ _ _ _ _ _ _ _ _)); (fail_if_success ((with_reducible refine stopAt ?gdK ?gdH); (case gdK => exact rfl)))))); (fail_if_success (with_reducible show wpAny _ _ (exec (Stmt.Assign _ (Expr.ListComp _ _ _ _) _) _) _ _ _)); (fail_if_success (with_reducible show wpAny _ _ (compareOp CmpOp.Eq (Value.ref _) (Value.ref _)) _ _ _)))); dsimp only; walk1) | (leave1; walk_say "STEP leave1"; try dsimp only) | fail "no step"))
        rename News _ _ _ _ => NN
        rename Fr _ _ _ _ => FF
        k_here
        k_dflt (refine' LCg.CompSrc.ledger ?c1 ?c2 ?c3 ?c4 ?c5 ?_; (case c2 => exact FF); (case c3 => exact NN); (case c4 => k_mem); (case c5 => (rw [hvs]; exact hsz.1)); (case c1 => rfl))
        intro g9
        refine comp_rest (.inr ⟨_, .tail _ (.tail _ (.tail _ (.head _))), rfl, _, rfl⟩) (fun j ys => RowsAre ys ((ws.take j).map (· + (i + 1)))) .nil ?_ ?_
        · rintro j ys v I3 oI C3 oC D3 m4 h8 tk8 E8 hj hys hv3 hC3 hx3 F8 N8 off8
          obtain ⟨z3, t3, rfl, hz3⟩ := intsGet hi j v (by simpa using hv3)
          obtain ⟨wn, hwn, rfl⟩ := toI_get hz3
          have hw3 := hw wn (List.mem_of_getElem? hwn)
          (repeat' (first | (k_unfold; (try dsimp only)) | (k_end; wrow_close) | (((((((fail_if_success (with_reducible show wpAny _ _ (exec (Stmt.For _ _ _ _ _) _) _ _ _)); (fail_if_success (with_reducible show wpAny _ _ (exec (Stmt.While _ _ _ _) _) _ _ _)); (fail_if_success (with_reducible show Exists _)); (fail_if_success (with_reducible show wpAny _ _ (eval (Expr.ListComp _ _ _ _) _) _ _ _)); (fail_if_success (with_reducible show LCg.CompSrc _ _ _ _ _ _ _ _ _ _ _ _ _ _)); (fail_if_success (with_reducible show LCt.CompSrcT _ _ _ _ _ _ _ _ _ _ _ _ _ _ _)); (fail_if_success ((with_reducible refine stopAt ?gdK ?gdH); (case gdK => exact rfl)))))); (fail_if_success (with_reducible show wpAny _ _ (exec (Stmt.Assign _ (Expr.ListComp _ _ _ _) _) _) _ _ _)); (fail_if_success (with_reducible show wpAny _ _ (compareOp CmpOp.Eq (Value.ref _) (Value.ref _)) _ _ _)))); walk1) | (((((((fail_if_success (with_reducible show wpAny _ _ (exec (Stmt.For _ _ _ _ _) _) _ _ _)); (fail_if_success (with_reducible show wpAny _ _ (exec (Stmt.While _ _ _ _) _) _ _ _)); (fail_if_success (with_reducible show Exists _)); (fail_if_success (with_reducible show wpAny _ _ (eval (Expr.ListComp _ _ _ _) _) _ _ _)); (fail_if_success (with_reducible show LCg.CompSrc _ _ _ _ _ _ _ _ _ _ _ _ _ _)); (fail_if_success (with_reducible show LCt.CompSrcT _ _ _ _ _ _ _ _ _ _ _ _ _ _ _)); (fail_if_success ((with_reducible refine stopAt ?gdK ?gdH); (case gdK => exact rfl)))))); (fail_if_success (with_reducible show wpAny _ _ (exec (Stmt.Assign _ (Expr.ListComp _ _ _ _) _) _) _ _ _)); (fail_if_success (with_reducible show wpAny _ _ (compareOp CmpOp.Eq (Value.ref _) (Value.ref _)) _ _ _)))); dsimp only; walk1) | (leave1; walk_say "STEP leave1"; try dsimp only) | fail "no step"))
          refine ⟨_, _, rfl, by assumption, by assumption, ?_⟩
          rw [mul_dots (wn + (i + 1) + 1) (due_dots wn i), takeSnoc hwn, List.map_append]
          exact hys.snoc _ _
        · intro ys9 hys9
          walk_at "FinA"
          rw [hvs, List.take_length] at hys9
          (repeat' (first | (k_unfold; (try dsimp only)) | (k_end; wrow_close) | (((((((fail_if_success (with_reducible show wpAny _ _ (exec (Stmt.For _ _ _ _ _) _) _ _ _)); (fail_if_success (with_reducible show wpAny _ _ (exec (Stmt.While _ _ _ _) _) _ _ _)); (fail_if_success (with_reducible show Exists _)); (fail_if_success (with_reducible show wpAny _ _ (eval (Expr.ListComp _ _ _ _) _) _ _ _)); (fail_if_success (with_reducible show LCg.CompSrc _ _ _ _ _ _ _ _ _ _ _ _ _ _)); (fail_if_success (with_reducible show LCt.CompSrcT _ _ _ _ _ _ _ _ _ _ _ _ _ _ _)); (fail_if_success ((with_reducible refine stopAt ?gdK ?gdH); (case gdK => exact rfl)))))); (fail_if_success (with_reducible show wpAny _ _ (exec (Stmt.Assign _ (Expr.ListComp _ _ _ _) _) _) _ _ _)); (fail_if_success (with_reducible show wpAny _ _ (compareOp CmpOp.Eq (Value.ref _) (Value.ref _)) _ _ _)))); walk1) | (((((((fail_if_success (with_reducible show wpAny _ _ (exec (Stmt.For _ _ _ _ _) _) _ _ _)); (fail_if_success (with_reducible show wpAny _ _ (exec (Stmt.While _ _ _ _) _) _ _ _)); (fail_if_success (with_reducible show Exists _)); (fail_if_success (with_reducible show wpAny _ _ (eval (Expr.ListComp _ _ _ _) _) _ _ _)); (fail_if_success (with_reducible show LCg.CompSrc _ _ _ _ _ _ _ _ _ _ _ _ _ _)); (fail_if_success (with_reducible show LCt.CompSrcT _ _ _ _ _ _ _ _ _ _ _ _ _ _ _)); (fail_if_success ((with_reducible refine stopAt ?gdK ?gdH); (case gdK => exact rfl)))))); (fail_if_success (with_reducible show wpAny _ _ (exec (Stmt.Assign _ (Expr.ListComp _ _ _ _) _) _) _ _ _)); (fail_if_success (with_reducible show wpAny _ _ (compareOp CmpOp.Eq (Value.ref _) (Value.ref _)) _ _ _)))); dsimp only; walk1) | (leave1; walk_say "STEP leave1"; try dsimp only) | fail "no step"))
          rename_i R1 _ _ _ _ oR1
          rename News _ _ _ _ => NN
          rename Fr _ _ _ _ => FF
          k_here
          k_dflt (refine LCg.Assign_ListComp_U (F₀ := by k_asm) (by rfl) (by with_unfolding_all rfl) (by with_unfolding_all rfl) (by decide) (by rfl) (by decide) (by rfl) (by rfl) (by rfl) ?_)
          (repeat' (first | (k_unfold; (try dsimp only)) | (k_end; wrow_close) | (((((((fail_if_success (with_reducible show wpAny _ _ (exec (Stmt.For _ _ _ _ _) _) _ _ _)); (fail_if_success (with_reducible show wpAny _ _ (exec (Stmt.While _ _ _ _) _) _ _ _)); (fail_if_success (with_reducible show Exists _)); (fail_if_success (with_reducible show wpAny _ _ (eval (Expr.ListComp _ _ _ _) _) _ _ _)); (fail_if_success (with_reducible show LCg.CompSrc _ _ _ _ _ _ _ _ _ _ _ _ _ _)); (fail_if_success (with_reducible show LCt.CompSrcT _ _ _ _ _ _ _ _ _ _ _ _ _ _ _)); (fail_if_success ((with_reducible refine stopAt ?gdK ?gdH); (case gdK => exact rfl)))))); (fail_if_success (with_reducible show wpAny _ _ (exec (Stmt.Assign _ (Expr.ListComp _ _ _ _) _) _) _ _ _)); (fail_if_success (with_reducible show wpAny _ _ (compareOp CmpOp.Eq (Value.ref _) (Value.ref _)) _ _ _)))); walk1) | (((((((fail_if_success (with_reducible show wpAny _ _ (exec (Stmt.For _ _ _ _ _) _) _ _ _)); (fail_if_success (with_reducible show wpAny _ _ (exec (Stmt.While _ _ _ _) _) _ _ _)); (fail_if_success (with_reducible show Exists _)); (fail_if_success (with_reducible show wpAny _ _ (eval (Expr.ListComp _ _ _ _) _) _ _ _)); (fail_if_success (with_reducible show LCg.CompSrc _ _ _ _ _ _ _ _ _ _ _ _ _ _)); (fail_if_success (with_reducible show LCt.CompSrcT _ _ _ _ _ _ _ _ _ _ _ _ _ _ _)); (fail_if_success ((with_reducible refine stopAt ?gdK ?gdH); (case gdK => exact rfl)))))); (fail_if_success (with_reducible show wpAny _ _ (exec (Stmt.Assign _ (Expr.ListComp _ _ _ _) _) _) _ _ _)); (fail_if_success (with_reducible show wpAny _ _ (compareOp CmpOp.Eq (Value.ref _) (Value.ref _)) _ _ _)))); dsimp only; walk1) | (leave1; walk_say "STEP leave1"; try dsimp only) | fail "no step"))
          rename News _ _ _ _ => NN
          rename Fr _ _ _ _ => FF
          k_here
          k_dflt (refine' LCg.CompSrc.ledger (its := #[.int p0 tp]) ?c1 ?c2 ?c3 ?c4 ?c5 ?_; (case c2 => exact FF); (case c3 => exact NN); (case c4 => k_mem); (case c5 => (show 1 ≤ sizeLine; rw [sizeLine_eq]; decide)); (case c1 => rfl))
          intro g10
          refine comp_rest (n := 1) (.inr ⟨_, .tail _ (.tail _ (.tail _ (.head _))), rfl, _, rfl⟩) (fun j ys => IntsAre ys (([p0].take j).map fun z => (z + (1 + (i : Int))).fmod Z)) .nil ?_ ?_
          · rintro j ys v I3 oI C3 oC D3 m4 h8 tk8 E8 hj hys hv3 hC3 hx3 F8 N8 off8
            obtain rfl : j = 0 := Nat.lt_one_iff.mp hj
            obtain rfl : v = .int p0 tp := by simpa using hv3.symm
            (repeat' (first | (k_unfold; (try dsimp only)) | (k_end; wrow_close) | (((((((fail_if_success (with_reducible show wpAny _ _ (exec (Stmt.For _ _ _ _ _) _) _ _ _)); (fail_if_success (with_reducible show wpAny _ _ (exec (Stmt.While _ _ _ _) _) _ _ _)); (fail_if_success (with_reducible show Exists _)); (fail_if_success (with_reducible show wpAny _ _ (eval (Expr.ListComp _ _ _ _) _) _ _ _)); (fail_if_success (with_reducible show LCg.CompSrc _ _ _ _ _ _ _ _ _ _ _ _ _ _)); (fail_if_success (with_reducible show LCt.CompSrcT _ _ _ _ _ _ _ _ _ _ _ _ _ _ _)); (fail_if_success ((with_reducible refine stopAt ?gdK ?gdH); (case gdK => exact rfl)))))); (fail_if_success (with_reducible show wpAny _ _ (exec (Stmt.Assign _ (Expr.ListComp _ _ _ _) _) _) _ _ _)); (fail_if_success (with_reducible show wpAny _ _ (compareOp CmpOp.Eq (Value.ref _) (Value.ref _)) _ _ _)))); walk1) | (((((((fail_if_success (with_reducible show wpAny _ _ (exec (Stmt.For _ _ _ _ _) _) _ _ _)); (fail_if_success (with_reducible show wpAny _ _ (exec (Stmt.While _ _ _ _) _) _ _ _)); (fail_if_success (with_reducible show Exists _)); (fail_if_success (with_reducible show wpAny _ _ (eval (Expr.ListComp _ _ _ _) _) _ _ _)); (fail_if_success (with_reducible show LCg.CompSrc _ _ _ _ _ _ _ _ _ _ _ _ _ _)); (fail_if_success (with_reducible show LCt.CompSrcT _ _ _ _ _ _ _ _ _ _ _ _ _ _ _)); (fail_if_success ((with_reducible refine stopAt ?gdK ?gdH); (case gdK => exact rfl)))))); (fail_if_success (with_reducible show wpAny _ _ (exec (Stmt.Assign _ (Expr.ListComp _ _ _ _) _) _) _ _ _)); (fail_if_success (with_reducible show wpAny _ _ (compareOp CmpOp.Eq (Value.ref _) (Value.ref _)) _ _ _)))); dsimp only; walk1) | (leave1; walk_say "STEP leave1"; try dsimp only) | fail "no step"))
            refine ⟨_, _, rfl, by assumption, by assumption, ?_⟩
            exact IntsAre.append hys (.cons _ _ .nil)
          · intro ys10 hys10
            walk_at "FinA"
            rename_i Q1 _ _ _ _ oQ1
            obtain ⟨tq, rfl⟩ := one_int' (pp := (p0 + (1 + (i : Int))).fmod Z) hys10
            (repeat' (first | (k_unfold; (try dsimp only)) | (k_end; wrow_close) | (((((((fail_if_success (with_reducible show wpAny _ _ (exec (Stmt.For _ _ _ _ _) _) _ _ _)); (fail_if_success (with_reducible show wpAny _ _ (exec (Stmt.While _ _ _ _) _) _ _ _)); (fail_if_success (with_reducible show Exists _)); (fail_if_success (with_reducible show wpAny _ _ (eval (Expr.ListComp _ _ _ _) _) _ _ _)); (fail_if_success (with_reducible show LCg.CompSrc _ _ _ _ _ _ _ _ _ _ _ _ _ _)); (fail_if_success (with_reducible show LCt.CompSrcT _ _ _ _ _ _ _ _ _ _ _ _ _ _ _)); (fail_if_success ((with_reducible refine stopAt ?gdK ?gdH); (case gdK => exact rfl)))))); (fail_if_success (with_reducible show wpAny _ _ (exec (Stmt.Assign _ (Expr.ListComp _ _ _ _) _) _) _ _ _)); (fail_if_success (with_reducible show wpAny _ _ (compareOp CmpOp.Eq (Value.ref _) (Value.ref _)) _ _ _)))); walk1) | (((((((fail_if_success (with_reducible show wpAny _ _ (exec (Stmt.For _ _ _ _ _) _) _ _ _)); (fail_if_success (with_reducible show wpAny _ _ (exec (Stmt.While _ _ _ _) _) _ _ _)); (fail_if_success (with_reducible show Exists _)); (fail_if_success (with_reducible show wpAny _ _ (eval (Expr.ListComp _ _ _ _) _) _ _ _)); (fail_if_success (with_reducible show LCg.CompSrc _ _ _ _ _ _ _ _ _ _ _ _ _ _)); (fail_if_success (with_reducible show LCt.CompSrcT _ _ _ _ _ _ _ _ _ _ _ _ _ _ _)); (fail_if_success ((with_reducible refine stopAt ?gdK ?gdH); (case gdK => exact rfl)))))); (fail_if_success (with_reducible show wpAny _ _ (exec (Stmt.Assign _ (Expr.ListComp _ _ _ _) _) _) _ _ _)); (fail_if_success (with_reducible show wpAny _ _ (compareOp CmpOp.Eq (Value.ref _) (Value.ref _)) _ _ _)))); dsimp only; walk1) | (leave1; walk_say "STEP leave1"; try dsimp only) | fail "no step"))
            rename News _ _ _ _ => NN
            rename Fr _ _ _ _ => FF
            have hpp := due_pp (p0 := p0) i hsz.2.2.1
            have hdec := due_dec (Z := Z) hpp
            k_here
            k_dflt (refine' ke_eq_ints (ns := [(p0 + (1 + (i : Int))).fmod Z]) (ms := [Z - 1]) ?a1 ?a2 ?i1 ?i2 ?a3 ?_; (case a1 => exact ⟨_, (NN _ (.tail _ (.head _))).1, rfl, _, rfl⟩); (case a2 => exact ⟨_, (NN _ (.head _)).1, rfl, _, rfl⟩); (case i1 => exact .cons _ _ .nil); (case i2 => exact .cons _ _ .nil); (case a3 => ktr_units))
            try dsimp only
            rw [hdec]
            generalize hbb : decide ((p0 + ((i + 1 : Nat) : Int)) % Z = Z - 1) = bb at *
            (repeat' (first | (k_unfold; (try dsimp only)) | (k_end; wrow_close) | (((((((fail_if_success (with_reducible show wpAny _ _ (exec (Stmt.For _ _ _ _ _) _) _ _ _)); (fail_if_success (with_reducible show wpAny _ _ (exec (Stmt.While _ _ _ _) _) _ _ _)); (fail_if_success (with_reducible show Exists _)); (fail_if_success (with_reducible show wpAny _ _ (eval (Expr.ListComp _ _ _ _) _) _ _ _)); (fail_if_success (with_reducible show LCg.CompSrc _ _ _ _ _ _ _ _ _ _ _ _ _ _)); (fail_if_success (with_reducible show LCt.CompSrcT _ _ _ _ _ _ _ _ _ _ _ _ _ _ _)); (fail_if_success ((with_reducible refine stopAt ?gdK ?gdH); (case gdK => exact rfl)))))); (fail_if_success (with_reducible show wpAny _ _ (exec (Stmt.Assign _ (Expr.ListComp _ _ _ _) _) _) _ _ _)); (fail_if_success (with_reducible show wpAny _ _ (compareOp CmpOp.Eq (Value.ref _) (Value.ref _)) _ _ _)))); walk1) | (((((((fail_if_success (with_reducible show wpAny _ _ (exec (Stmt.For _ _ _ _ _) _) _ _ _)); (fail_if_success (with_reducible show wpAny _ _ (exec (Stmt.While _ _ _ _) _) _ _ _)); (fail_if_success (with_reducible show Exists _)); (fail_if_success (with_reducible show wpAny _ _ (eval (Expr.ListComp _ _ _ _) _) _ _ _)); (fail_if_success (with_reducible show LCg.CompSrc _ _ _ _ _ _ _ _ _ _ _ _ _ _)); (fail_if_success (with_reducible show LCt.CompSrcT _ _ _ _ _ _ _ _ _ _ _ _ _ _ _)); (fail_if_success ((with_reducible refine stopAt ?gdK ?gdH); (case gdK => exact rfl)))))); (fail_if_success (with_reducible show wpAny _ _ (exec (Stmt.Assign _ (Expr.ListComp _ _ _ _) _) _) _ _ _)); (fail_if_success (with_reducible show wpAny _ _ (compareOp CmpOp.Eq (Value.ref _) (Value.ref _)) _ _ _)))); dsimp only; walk1) | (leave1; walk_say "STEP leave1"; try dsimp only) | fail "no step"))
            rename News _ _ _ _ => NN
            rename Fr _ _ _ _ => FF
            rename_i RT _ ltR
            subst hbb
            rw [hpp] at NN
            have hRL2 : ∀ q ∈ recsLed Z (recs ++ [⟨RT, R1, Q1, ys9, ys9.length, 1, 0, (p0 + ((i + 1 : Nat) : Int)) % Z, F0, tq, tz, tf⟩]), (@Ne Nat q.1 DL) ∧ (@Ne Nat q.1 (L' + 1 + 1 + 1)) := by
              refine recs_led (P := fun z => (@Ne Nat z DL) ∧ (@Ne Nat z (L' + 1 + 1 + 1))) hRL ⟨?_, ?_⟩ ⟨oR1.2.1.symm, oR1.2.2.2.2.1.symm⟩ ⟨oQ1.2.2.1.symm, oQ1.2.2.2.2.2.1.symm⟩ <;> (dsimp only; walk_at "NE")
            have hvll : (recsVal recs).length < 2 ^ 20 := by rw [recsVal, List.length_map, hrl]; exact due_room (z_lt2 hlt) hZ2
            k_here
            k_dflt (refine' appendL (D := DL) (vs := recsVal recs) (n := kD) (news := (DL, W.listOf (recsVal recs).toArray kD) :: (J', rgI (1 + (i : Int) + 1) (Z - (i : Int) - 1)) :: (FL, W.listOf #[.int p0 tp] kf) :: (WL, W.listOf vs.toArray kw) :: (L' + 1 + 1 + 1, _) :: (L' + 1 + 1, oS) :: (L' + 1, oW) :: recsLed Z (recs ++ [⟨RT, R1, Q1, ys9, ys9.length, 1, 0, (p0 + ((i + 1 : Nat) : Int)) % Z, F0, tq, tz, tf⟩])) FF (newsSub NN ?sb2) (.head ?hd2) hvll ?_; k_whole)
            case sb2 =>
              refine subC (by k_mem) (subC (by k_mem) (subC (by k_mem) (subC (by k_mem) (subC (by k_mem) (subC (by k_mem) (subC (by k_mem) (recs_sub ?sb5 ?sb6)))))))
              case sb5 => (intro q hq; repeat' (first | exact hq | refine List.Mem.tail _ ?_))
              case sb6 => walk_at "SUBALL"
            case hd2 =>
              refine neC (by walk_at "NE") (neC (by walk_at "NE") (neC (by walk_at "NE") (neC (by walk_at "NE") (neC (by walk_at "NE") (neC (by walk_at "NE") fun q hq => (hRL2 q hq).1)))))
            intro h14 F14 N14
            rw [show recsVal recs ++ [Value.ref RT] = recsVal (recs ++ [⟨RT, R1, Q1, ys9, ys9.length, 1, 0, (p0 + ((i + 1 : Nat) : Int)) % Z, F0, tq, tz, tf⟩]) from (recsVal_snoc (rs := recs) (r := ⟨RT, R1, Q1, ys9, ys9.length, 1, 0, (p0 + ((i + 1 : Nat) : Int)) % Z, F0, tq, tz, tf⟩)).symm] at N14
            try dsimp only
            walk1
            try dsimp only
            refine kOut hIv ?_
            refine ⟨Z.toNat - (i + 1), nsubS (z_lt2 hlt), _, _, i + 1, tf, kD + 1, _, _, recs ++ [⟨RT, R1, Q1, ys9, ys9.length, 1, 0, (p0 + ((i + 1 : Nat) : Int)) % Z, F0, tq, tz, tf⟩], rfl, ⟨_, F14, rfl⟩, ?nn, dT2, ltJ, recsOk_snoc hrl hrec ⟨hys9, rfl, rfl⟩, by rw [List.length_append, hrl]; rfl, hRL2, rfl, z_lt2 hlt⟩
            case nn =>
              rw [(rg_succ' Z i).1, (rg_succ' Z i).2]
              refine newsSub N14 ?_
              walk_at "SUBL"
      · have hie : recs.length = Z.toNat := hrl.trans (z_eq2 hle hi1)
        clear F2 N1
        (repeat' (first | (k_unfold; (try dsimp only)) | (k_end; wrow_close) | (((((((fail_if_success (with_reducible show wpAny _ _ (exec (Stmt.For _ _ _ _ _) _) _ _ _)); (fail_if_success (with_reducible show wpAny _ _ (exec (Stmt.While _ _ _ _) _) _ _ _)); (fail_if_success (with_reducible show Exists _)); (fail_if_success (with_reducible show wpAny _ _ (eval (Expr.ListComp _ _ _ _) _) _ _ _)); (fail_if_success (with_reducible show LCg.CompSrc _ _ _ _ _ _ _ _ _ _ _ _ _ _)); (fail_if_success (with_reducible show LCt.CompSrcT _ _ _ _ _ _ _ _ _ _ _ _ _ _ _)); (fail_if_success ((with_reducible refine stopAt ?gdK ?gdH); (case gdK => exact rfl)))))); (fail_if_success (with_reducible show wpAny _ _ (exec (Stmt.Assign _ (Expr.ListComp _ _ _ _) _) _) _ _ _)); (fail_if_success (with_reducible show wpAny _ _ (compareOp CmpOp.Eq (Value.ref _) (Value.ref _)) _ _ _)))); walk1) | (((((((fail_if_success (with_reducible show wpAny _ _ (exec (Stmt.For _ _ _ _ _) _) _ _ _)); (fail_if_success (with_reducible show wpAny _ _ (exec (Stmt.While _ _ _ _) _) _ _ _)); (fail_if_success (with_reducible show Exists _)); (fail_if_success (with_reducible show wpAny _ _ (eval (Expr.ListComp _ _ _ _) _) _ _ _)); (fail_if_success (with_reducible show LCg.CompSrc _ _ _ _ _ _ _ _ _ _ _ _ _ _)); (fail_if_success (with_reducible show LCt.CompSrcT _ _ _ _ _ _ _ _ _ _ _ _ _ _ _)); (fail_if_success ((with_reducible refine stopAt ?gdK ?gdH); (case gdK => exact rfl)))))); (fail_if_success (with_reducible show wpAny _ _ (exec (Stmt.Assign _ (Expr.ListComp _ _ _ _) _) _) _ _ _)); (fail_if_success (with_reducible show wpAny _ _ (compareOp CmpOp.Eq (Value.ref _) (Value.ref _)) _ _ _)))); dsimp only; walk1) | (leave1; walk_say "STEP leave1"; try dsimp only) | fail "no step"))
        rename News h₀ _ _ _ => NE
        rename News g' _ _ _ => NG
        refine hret _ _ _ _ ⟨DL, kD, recs, rfl, hrec, hie, rfl⟩ (by assumption) (newsSub NE ?sb3) (Keep.fr Kg (by assumption)) (Keep.fresh Kg (newsSub NG ?sb4))
        case sb3 => walk_at "SUBL"
        case sb4 => walk_at "SUBL"
end Mine
end

-- part Lw
namespace Mine
theorem ints_pick {vs : List Value} {ns : List Int} (h : IntsAre vs ns) : ∀ idx : List Nat, ∃ ms, IntsAre (idx.filterMap (vs.toArray[·]?)) ms
  | [] => ⟨[], .nil⟩
  | k :: idx => by
    obtain ⟨ms, hm⟩ := ints_pick h idx
    cases e : vs.toArray[k]? with
    | none => exact ⟨ms, by rw [List.filterMap_cons, e]; exact hm⟩
    | some v =>
      obtain ⟨z, t, rfl, _⟩ := intsGet h k v (by simpa using e)
      exact ⟨z :: ms, by rw [List.filterMap_cons, e]; exact .cons z t hm⟩
theorem pickAddr {g h : Heap} {L a : Nat} {x : Addr × Obj} {o : Obj} {r : List (Addr × Obj)} (_ : News g L h (x :: (a, o) :: r)) {P : Prop} (k : ∀ SA : Nat, SA = a → P) : P := k a rfl
theorem wish_snoc {Z : Int} (hZ : 0 < Z) {ys : List Value} {wn : List Nat} {t : Tok} {i : Nat} (h : IntsAre ys (toI wn)) (hl : wn.length = i) (hb : ∀ x ∈ wn, (x : Int) < Z) (a : Int) :
    ∃ wn' : List Nat, IntsAre (ys ++ [.int (a.fmod Z) t]) (toI wn') ∧ wn'.length = i + 1 ∧ ∀ x ∈ wn', (x : Int) < Z := by
  have e : a.fmod Z = a % Z := Int.fmod_eq_emod_of_nonneg _ (by omega)
  have h0 : 0 ≤ a % Z := Int.emod_nonneg _ (by omega)
  have h1 : a % Z < Z := Int.emod_lt_of_pos _ hZ
  refine ⟨wn ++ [(a % Z).toNat], ?_, by simp [hl], ?_⟩
  · rw [e, toI, List.map_append]
    refine IntsAre.append h ?_
    rw [List.map_singleton, Int.toNat_of_nonneg h0]
    exact .cons _ _ .nil
  · intro x hx
    rcases List.mem_append.mp hx with h | h
    · exact hb x h
    · rw [List.mem_singleton.mp h, Int.toNat_of_nonneg h0]; exact h1
end Mine
theorem PySem.Challenge.cw_rw0069_01_holds : PySem.Challenge.rw_rw0069_01.Holds :=
  hd (by
  k_go0
  all_goals try k_fold
  (repeat' (first | (k_unfold; (try dsimp only)) | (k_end; wrow_close) | (((((((fail_if_success (with_reducible show wpAny _ _ (exec (Stmt.For _ _ _ _ _) _) _ _ _)); (fail_if_success (with_reducible show wpAny _ _ (exec (Stmt.While _ _ _ _) _) _ _ _)); (fail_if_success (with_reducible show Exists _)); (fail_if_success (with_reducible show wpAny _ _ (eval (Expr.ListComp _ _ _ _) _) _ _ _)); (fail_if_success (with_reducible show LCg.CompSrc _ _ _ _ _ _ _ _ _ _ _ _ _ _)); (fail_if_success (with_reducible show LCt.CompSrcT _ _ _ _ _ _ _ _ _ _ _ _ _ _ _)); (fail_if_success ((with_reducible refine stopAt ?gdK ?gdH); (case gdK => exact rfl)))))); (fail_if_success (with_reducible show wpAny _ _ (exec (Stmt.Assign _ (Expr.ListComp _ _ _ _) _) _) _ _ _)); (fail_if_success (with_reducible show wpAny _ _ (compareOp CmpOp.Eq (Value.ref _) (Value.ref _)) _ _ _)))); walk1) | (((((((fail_if_success (with_reducible show wpAny _ _ (exec (Stmt.For _ _ _ _ _) _) _ _ _)); (fail_if_success (with_reducible show wpAny _ _ (exec (Stmt.While _ _ _ _) _) _ _ _)); (fail_if_success (with_reducible show Exists _)); (fail_if_success (with_reducible show wpAny _ _ (eval (Expr.ListComp _ _ _ _) _) _ _ _)); (fail_if_success (with_reducible show LCg.CompSrc _ _ _ _ _ _ _ _ _ _ _ _ _ _)); (fail_if_success (with_reducible show LCt.CompSrcT _ _ _ _ _ _ _ _ _ _ _ _ _ _ _)); (fail_if_success ((with_reducible refine stopAt ?gdK ?gdH); (case gdK => exact rfl)))))); (fail_if_success (with_reducible show wpAny _ _ (exec (Stmt.Assign _ (Expr.ListComp _ _ _ _) _) _) _ _ _)); (fail_if_success (with_reducible show wpAny _ _ (compareOp CmpOp.Eq (Value.ref _) (Value.ref _)) _ _ _)))); dsimp only; walk1) | (leave1; walk_say "STEP leave1"; try dsimp only) | fail "no step"))
  rename_i oS FF NN dS
  rename (IntsAre _ _) => hiS
  rename (¬ ((63 : Nat) : Int) < _) => h63
  obtain ⟨Z, tZ, hZ2, dS2⟩ : ∃ (Z : Int) (tZ : Tok), (4 ≤ Z ∧ Z ≤ 7) ∧ oS.data = .cell (some (.int Z tZ)) := ⟨_, _, ⟨by split <;> split <;> omega, by split <;> split <;> omega⟩, dS⟩
  clear dS
  k_here
  k_dflt (refine LCg.Assign_ListComp_U (F₀ := by k_asm) (by rfl) (by with_unfolding_all rfl) (by with_unfolding_all rfl) (by decide) (by rfl) (by decide) (by rfl) (by rfl) (by rfl) ?_)
  (repeat' (first | (k_unfold; (try dsimp only)) | (k_end; wrow_close) | (((((((fail_if_success (with_reducible show wpAny _ _ (exec (Stmt.For _ _ _ _ _) _) _ _ _)); (fail_if_success (with_reducible show wpAny _ _ (exec (Stmt.While _ _ _ _) _) _ _ _)); (fail_if_success (with_reducible show Exists _)); (fail_if_success (with_reducible show wpAny _ _ (eval (Expr.ListComp _ _ _ _) _) _ _ _)); (fail_if_success (with_reducible show LCg.CompSrc _ _ _ _ _ _ _ _ _ _ _ _ _ _)); (fail_if_success (with_reducible show LCt.CompSrcT _ _ _ _ _ _ _ _ _ _ _ _ _ _ _)); (fail_if_success ((with_reducible refine stopAt ?gdK ?gdH); (case gdK => exact rfl)))))); (fail_if_success (with_reducible show wpAny _ _ (exec (Stmt.Assign _ (Expr.ListComp _ _ _ _) _) _) _ _ _)); (fail_if_success (with_reducible show wpAny _ _ (compareOp CmpOp.Eq (Value.ref _) (Value.ref _)) _ _ _)))); walk1) | (((((((fail_if_success (with_reducible show wpAny _ _ (exec (Stmt.For _ _ _ _ _) _) _ _ _)); (fail_if_success (with_reducible show wpAny _ _ (exec (Stmt.While _ _ _ _) _) _ _ _)); (fail_if_success (with_reducible show Exists _)); (fail_if_success (with_reducible show wpAny _ _ (eval (Expr.ListComp _ _ _ _) _) _ _ _)); (fail_if_success (with_reducible show LCg.CompSrc _ _ _ _ _ _ _ _ _ _ _ _ _ _)); (fail_if_success (with_reducible show LCt.CompSrcT _ _ _ _ _ _ _ _ _ _ _ _ _ _ _)); (fail_if_success ((with_reducible refine stopAt ?gdK ?gdH); (case gdK => exact rfl)))))); (fail_if_success (with_reducible show wpAny _ _ (exec (Stmt.Assign _ (Expr.ListComp _ _ _ _) _) _) _ _ _)); (fail_if_success (with_reducible show wpAny _ _ (compareOp CmpOp.Eq (Value.ref _) (Value.ref _)) _ _ _)))); dsimp only; walk1) | (leave1; walk_say "STEP leave1"; try dsimp only) | fail "no step"))
  rename News _ _ _ _ => NN
  rename Fr _ _ _ _ => FF
  k_here
  have hZn : (((Z - 1).toNat : Nat) : Int) = Z - 1 := by omega
  k_dflt (refine' LCg.CompSrc.range (n := (Z - 1).toNat) ?c1 ?c2 ?c3 ?c4 ?c5 ?c6 ?c7 ?_; (case c2 => exact FF); (case c3 => exact NN); (case c4 => assumption); (case c5 => exact small_one (by omega) (by omega) (by omega) (by omega)); (case c6 => (rw [rangeSize_one]; split <;> omega)); (case c7 => (rw [sizeLine_eq]; omega)); (case c1 => rfl))
  intro g10
  refine comp_rest trivial (fun i ys => ∃ wn : List Nat, IntsAre ys (toI wn) ∧ wn.length = i ∧ ∀ x ∈ wn, (x : Int) < Z) ⟨[], .nil, rfl, fun x h => nomatch h⟩ ?_ ?_
  · rintro i3 ys v I3 oI C3 oC D3 m4 h8 tk8 E8 hi3 ⟨wn, hwi, hwl, hwb⟩ ⟨t3, rfl⟩ hC3 hx3 F8 N8 off8
    have hz4 : 0 ≤ (0 : Int) + (i3 : Int) ∧ (0 : Int) + (i3 : Int) < 6 := by omega
    generalize hz5 : (0 : Int) + (i3 : Int) = z5 at *
    (repeat' (first | (k_unfold; (try dsimp only)) | (k_end; wrow_close) | (((((((fail_if_success (with_reducible show wpAny _ _ (exec (Stmt.For _ _ _ _ _) _) _ _ _)); (fail_if_success (with_reducible show wpAny _ _ (exec (Stmt.While _ _ _ _) _) _ _ _)); (fail_if_success (with_reducible show Exists _)); (fail_if_success (with_reducible show wpAny _ _ (eval (Expr.ListComp _ _ _ _) _) _ _ _)); (fail_if_success (with_reducible show LCg.CompSrc _ _ _ _ _ _ _ _ _ _ _ _ _ _)); (fail_if_success (with_reducible show LCt.CompSrcT _ _ _ _ _ _ _ _ _ _ _ _ _ _ _)); (fail_if_success ((with_reducible refine stopAt ?gdK ?gdH); (case gdK => exact rfl)))))); (fail_if_success (with_reducible show wpAny _ _ (exec (Stmt.Assign _ (Expr.ListComp _ _ _ _) _) _) _ _ _)); (fail_if_success (with_reducible show wpAny _ _ (compareOp CmpOp.Eq (Value.ref _) (Value.ref _)) _ _ _)))); walk1) | (((((((fail_if_success (with_reducible show wpAny _ _ (exec (Stmt.For _ _ _ _ _) _) _ _ _)); (fail_if_success (with_reducible show wpAny _ _ (exec (Stmt.While _ _ _ _) _) _ _ _)); (fail_if_success (with_reducible show Exists _)); (fail_if_success (with_reducible show wpAny _ _ (eval (Expr.ListComp _ _ _ _) _) _ _ _)); (fail_if_success (with_reducible show LCg.CompSrc _ _ _ _ _ _ _ _ _ _ _ _ _ _)); (fail_if_success (with_reducible show LCt.CompSrcT _ _ _ _ _ _ _ _ _ _ _ _ _ _ _)); (fail_if_success ((with_reducible refine stopAt ?gdK ?gdH); (case gdK => exact rfl)))))); (fail_if_success (with_reducible show wpAny _ _ (exec (Stmt.Assign _ (Expr.ListComp _ _ _ _) _) _) _ _ _)); (fail_if_success (with_reducible show wpAny _ _ (compareOp CmpOp.Eq (Value.ref _) (Value.ref _)) _ _ _)))); dsimp only; walk1) | (leave1; walk_say "STEP leave1"; try dsimp only) | fail "no step"))
    rename News _ _ _ _ => NN
    rename Fr _ _ _ _ => FF
    obtain ⟨ms, hms⟩ := ints_pick hiS (sliceRange (sliceBounds (some z5) none (some (Z - 1)) (List.toArray _).size).1 (sliceBounds (some z5) none (some (Z - 1)) (List.toArray _).size).2.1 (sliceBounds (some z5) none (some (Z - 1)) (List.toArray _).size).2.2)
    have hms2 : IntsAre (slicePick (List.toArray _) (some z5) none (some (Z - 1))).toList ms := hms
    (repeat' (first | (k_unfold; (try dsimp only)) | (k_end; wrow_close) | (((((((fail_if_success (with_reducible show wpAny _ _ (exec (Stmt.For _ _ _ _ _) _) _ _ _)); (fail_if_success (with_reducible show wpAny _ _ (exec (Stmt.While _ _ _ _) _) _ _ _)); (fail_if_success (with_reducible show Exists _)); (fail_if_success (with_reducible show wpAny _ _ (eval (Expr.ListComp _ _ _ _) _) _ _ _)); (fail_if_success (with_reducible show LCg.CompSrc _ _ _ _ _ _ _ _ _ _ _ _ _ _)); (fail_if_success (with_reducible show LCt.CompSrcT _ _ _ _ _ _ _ _ _ _ _ _ _ _ _)); (fail_if_success ((with_reducible refine stopAt ?gdK ?gdH); (case gdK => exact rfl)))))); (fail_if_success (with_reducible show wpAny _ _ (exec (Stmt.Assign _ (Expr.ListComp _ _ _ _) _) _) _ _ _)); (fail_if_success (with_reducible show wpAny _ _ (compareOp CmpOp.Eq (Value.ref _) (Value.ref _)) _ _ _)))); walk1) | (((((((fail_if_success (with_reducible show wpAny _ _ (exec (Stmt.For _ _ _ _ _) _) _ _ _)); (fail_if_success (with_reducible show wpAny _ _ (exec (Stmt.While _ _ _ _) _) _ _ _)); (fail_if_success (with_reducible show Exists _)); (fail_if_success (with_reducible show wpAny _ _ (eval (Expr.ListComp _ _ _ _) _) _ _ _)); (fail_if_success (with_reducible show LCg.CompSrc _ _ _ _ _ _ _ _ _ _ _ _ _ _)); (fail_if_success (with_reducible show LCt.CompSrcT _ _ _ _ _ _ _ _ _ _ _ _ _ _ _)); (fail_if_success ((with_reducible refine stopAt ?gdK ?gdH); (case gdK => exact rfl)))))); (fail_if_success (with_reducible show wpAny _ _ (exec (Stmt.Assign _ (Expr.ListComp _ _ _ _) _) _) _ _ _)); (fail_if_success (with_reducible show wpAny _ _ (compareOp CmpOp.Eq (Value.ref _) (Value.ref _)) _ _ _)))); dsimp only; walk1) | (leave1; walk_say "STEP leave1"; try dsimp only) | fail "no step"))
    all_goals
      rename News _ _ _ _ => NE
      rename Fr _ _ _ _ => FE
      exact ⟨_, _, rfl, FE, newsSub NE (by (first | exact subI | (((try dsimp only [lexM, lexO, rdM, rdP, lexD, strD, List.cons_append, List.nil_append])); first | walk_at "ALLIN" | walk_at "SUBALL"))), wish_snoc (by omega) hwi hwl hwb _⟩
  · intro ys9 ⟨wn, hwi, hwl, hwb⟩
    walk_at "FinA"
    rename_i D1 _ _ _ _ oD1
    (repeat' (first | (k_unfold; (try dsimp only)) | (k_end; wrow_close) | (((((((fail_if_success (with_reducible show wpAny _ _ (exec (Stmt.For _ _ _ _ _) _) _ _ _)); (fail_if_success (with_reducible show wpAny _ _ (exec (Stmt.While _ _ _ _) _) _ _ _)); (fail_if_success (with_reducible show Exists _)); (fail_if_success (with_reducible show wpAny _ _ (eval (Expr.ListComp _ _ _ _) _) _ _ _)); (fail_if_success (with_reducible show LCg.CompSrc _ _ _ _ _ _ _ _ _ _ _ _ _ _)); (fail_if_success (with_reducible show LCt.CompSrcT _ _ _ _ _ _ _ _ _ _ _ _ _ _ _)); (fail_if_success ((with_reducible refine stopAt ?gdK ?gdH); (case gdK => exact rfl)))))); (fail_if_success (with_reducible show wpAny _ _ (exec (Stmt.Assign _ (Expr.ListComp _ _ _ _) _) _) _ _ _)); (fail_if_success (with_reducible show wpAny _ _ (compareOp CmpOp.Eq (Value.ref _) (Value.ref _)) _ _ _)))); walk1) | (((((((fail_if_success (with_reducible show wpAny _ _ (exec (Stmt.For _ _ _ _ _) _) _ _ _)); (fail_if_success (with_reducible show wpAny _ _ (exec (Stmt.While _ _ _ _) _) _ _ _)); (fail_if_success (with_reducible show Exists _)); (fail_if_success (with_reducible show wpAny _ _ (eval (Expr.ListComp _ _ _ _) _) _ _ _)); (fail_if_success (with_reducible show LCg.CompSrc _ _ _ _ _ _ _ _ _ _ _ _ _ _)); (fail_if_success (with_reducible show LCt.CompSrcT _ _ _ _ _ _ _ _ _ _ _ _ _ _ _)); (fail_if_success ((with_reducible refine stopAt ?gdK ?gdH); (case gdK => exact rfl)))))); (fail_if_success (with_reducible show wpAny _ _ (exec (Stmt.Assign _ (Expr.ListComp _ _ _ _) _) _) _ _ _)); (fail_if_success (with_reducible show wpAny _ _ (compareOp CmpOp.Eq (Value.ref _) (Value.ref _)) _ _ _)))); dsimp only; walk1) | (leave1; walk_say "STEP leave1"; try dsimp only) | fail "no step"))
    rename News _ _ _ _ => NN
    rename Fr _ _ _ _ => FF
    have hwZ : (wn.length : Int) + 1 = Z := by omega
    have hlen2 : 2 ≤ (toI wn).length := by simp; omega
    have hwne : wn ≠ [] := by rintro rfl; simp at hwZ; omega
    obtain ⟨p0, F0, h0, hlo, hF⟩ := exists_left hZ2 hwZ hwb
    refine pickAddr NN fun SA hSA => ?_
    refine' Call.use (turns_call _ D1 ys9 wn ys9.length Z tZ [(126, tabObj #[])] (.inl rfl) hwi hwZ hZ2 hwb p0 F0 h0 hlo hF) (rest := [(SA, oS)]) ?B ?F ?X ?C ?N ?T ?hs ?hr ?ho ?hk ?hd ?hu ?_
    case B => assumption
    case F => exact FF
    case X => assumption
    case C => assumption
    case N => exact NN
    case T => assumption
    case hs => (first | exact subI | (((try dsimp only [lexM, lexO, rdM, rdP, lexD, strD, List.cons_append, List.nil_append])); first | walk_at "ALLIN" | walk_at "SUBALL"))
    case hr => exact List.forall_mem_cons.mpr ⟨by rw [hSA]; exact .tail _ (.head _), List.forall_mem_nil _⟩
    case ho => walk_at "OFF"
    case hk => rfl
    case hd => decide
    case hu => decide
    rintro _ _ h2 tk2 ⟨TL, kT, recs, TB', rfl, hT', hrec, hrl, rfl⟩ F2 N2 K2 Z2
    clear FF NN K2
    obtain ⟨tx, htx⟩ : ∃ tx, ((126 : Nat), tabObj tx) ∈ TB' := by
      rcases hT' with rfl | ⟨RC, oc, _, _, rfl⟩
      · exact ⟨_, .head _⟩
      · exact ⟨_, .head _⟩
    have N3 := newsSub N2 (l' := (TL, W.listOf (recsVal recs).toArray kT) :: (SA, oS) :: (D1, W.listOf ys9.toArray ys9.length) :: ((126 : Nat), tabObj tx) :: recsLed Z recs) (fun q hq => by
      simp only [List.mem_cons, List.mem_append] at hq ⊢
      rcases hq with h | h | h | h | h
      · simp [h]
      · simp [h]
      · simp [h]
      · rw [h]; simp [htx]
      · simp [h])
    have hoD : ∀ q ∈ (TL, W.listOf (recsVal recs).toArray kT) :: ((126 : Nat), tabObj tx) :: recsLed Z recs, q.1 ∉ [(D1, W.listOf ys9.toArray ys9.length)].map (·.1) := by
      have mD : (D1, W.listOf ys9.toArray ys9.length) ∈ (TL, W.listOf (recsVal recs).toArray kT) :: (SA, oS) :: (D1, W.listOf ys9.toArray ys9.length) :: ((126 : Nat), tabObj tx) :: recsLed Z recs := .tail _ (.tail _ (.head _))
      intro q hq hm
      have hqD : q.1 = D1 := by simpa using hm
      rcases List.mem_cons.mp hq with rfl | hq
      · exact newsNe N3 N3 (.head _) mD (told_ne_ints hwi (by omega) _ _) hqD
      rcases List.mem_cons.mp hq with rfl | hq
      · exact newsNe N3 N3 (.tail _ (.tail _ (.tail _ (.head _)))) mD (tab_ne_list (.inl ⟨_, rfl⟩) ⟨_, _, rfl⟩).symm hqD
      · exact newsNe N3 N3 (a := q.1) (o := q.2) (.tail _ (.tail _ (.tail _ (.tail _ hq)))) mD (recs_ne_ints hrec hwi hlen2 hwne _ q hq) hqD
    rw [hSA] at N3
    clear N2
    (try dsimp only); (try k_fold)
    (repeat' (first | (k_unfold; (try dsimp only)) | (k_end; wrow_close) | (((((((fail_if_success (with_reducible show wpAny _ _ (exec (Stmt.For _ _ _ _ _) _) _ _ _)); (fail_if_success (with_reducible show wpAny _ _ (exec (Stmt.While _ _ _ _) _) _ _ _)); (fail_if_success (with_reducible show Exists _)); (fail_if_success (with_reducible show wpAny _ _ (eval (Expr.ListComp _ _ _ _) _) _ _ _)); (fail_if_success (with_reducible show LCg.CompSrc _ _ _ _ _ _ _ _ _ _ _ _ _ _)); (fail_if_success (with_reducible show LCt.CompSrcT _ _ _ _ _ _ _ _ _ _ _ _ _ _ _)); (fail_if_success ((with_reducible refine stopAt ?gdK ?gdH); (case gdK => exact rfl)))))); (fail_if_success (with_reducible show wpAny _ _ (exec (Stmt.Assign _ (Expr.ListComp _ _ _ _) _) _) _ _ _)); (fail_if_success (with_reducible show wpAny _ _ (compareOp CmpOp.Eq (Value.ref _) (Value.ref _)) _ _ _)))); walk1) | (((((((fail_if_success (with_reducible show wpAny _ _ (exec (Stmt.For _ _ _ _ _) _) _ _ _)); (fail_if_success (with_reducible show wpAny _ _ (exec (Stmt.While _ _ _ _) _) _ _ _)); (fail_if_success (with_reducible show Exists _)); (fail_if_success (with_reducible show wpAny _ _ (eval (Expr.ListComp _ _ _ _) _) _ _ _)); (fail_if_success (with_reducible show LCg.CompSrc _ _ _ _ _ _ _ _ _ _ _ _ _ _)); (fail_if_success (with_reducible show LCt.CompSrcT _ _ _ _ _ _ _ _ _ _ _ _ _ _ _)); (fail_if_success ((with_reducible refine stopAt ?gdK ?gdH); (case gdK => exact rfl)))))); (fail_if_success (with_reducible show wpAny _ _ (exec (Stmt.Assign _ (Expr.ListComp _ _ _ _) _) _) _ _ _)); (fail_if_success (with_reducible show wpAny _ _ (compareOp CmpOp.Eq (Value.ref _) (Value.ref _)) _ _ _)))); dsimp only; walk1) | (leave1; walk_say "STEP leave1"; try dsimp only) | fail "no step"))
    rename News _ _ _ _ => NN
    rename Fr _ _ _ _ => FF
    refine' Call.use (due_call _ D1 ys9 wn ys9.length Z tZ hwi hwZ hZ2 hwb p0 F0 h0 hlo hF) (rest := (TL, W.listOf (recsVal recs).toArray kT) :: ((126 : Nat), tabObj tx) :: recsLed Z recs) ?B ?F ?X ?C ?N ?T ?hs ?hr ?ho ?hk ?hd ?hu ?_
    case B => assumption
    case F => exact FF
    case X => assumption
    case C => assumption
    case N => exact NN
    case T => assumption
    case hs => exact List.forall_mem_cons.mpr ⟨.tail _ (.tail _ (.head _)), List.forall_mem_nil _⟩
    case hr =>
      intro q hq
      simp only [List.mem_cons] at hq ⊢
      rcases hq with h | h | h <;> simp [h]
    case ho => exact hoD
    case hk => rfl
    case hd => decide
    case hu => decide
    rintro _ _ h4 tk4 ⟨DL, kD, recs2, rfl, hrec2, hrl2, rfl⟩ F4 N4 K4 Z4
    clear FF NN
    obtain ⟨as1, r1⟩ := reads_told N4 (TL := TL) (kT := kT) (by simp) (fun q hq => by simp [hq]) hrec
    obtain ⟨as2, r2⟩ := reads_told N4 (TL := DL) (kT := kD) (by simp) (fun q hq => by simp [hq]) hrec2
    rw [hrl] at r1
    rw [hrl2] at r2
    try dsimp only
    k_here
    k_dflt (refine' eq_dataH r1 r2 (told_lay ..).2 (told_lay ..).2 ?hu2 ?_; (case hu2 => exact Nat.le_of_ble_eq_true rfl))
    rw [SeqAt.eqv_refl _ (told_lay ..).1]
    have N5 := newsSub N4 (l' := [((126 : Nat), tabObj tx)]) (fun q hq => by
      rw [List.mem_singleton.mp hq]; simp)
    (repeat' (first | (k_unfold; (try dsimp only)) | (k_end; wrow_close) | (((((((fail_if_success (with_reducible show wpAny _ _ (exec (Stmt.For _ _ _ _ _) _) _ _ _)); (fail_if_success (with_reducible show wpAny _ _ (exec (Stmt.While _ _ _ _) _) _ _ _)); (fail_if_success (with_reducible show Exists _)); (fail_if_success (with_reducible show wpAny _ _ (eval (Expr.ListComp _ _ _ _) _) _ _ _)); (fail_if_success (with_reducible show LCg.CompSrc _ _ _ _ _ _ _ _ _ _ _ _ _ _)); (fail_if_success (with_reducible show LCt.CompSrcT _ _ _ _ _ _ _ _ _ _ _ _ _ _ _)); (fail_if_success ((with_reducible refine stopAt ?gdK ?gdH); (case gdK => exact rfl)))))); (fail_if_success (with_reducible show wpAny _ _ (exec (Stmt.Assign _ (Expr.ListComp _ _ _ _) _) _) _ _ _)); (fail_if_success (with_reducible show wpAny _ _ (compareOp CmpOp.Eq (Value.ref _) (Value.ref _)) _ _ _)))); walk1) | (((((((fail_if_success (with_reducible show wpAny _ _ (exec (Stmt.For _ _ _ _ _) _) _ _ _)); (fail_if_success (with_reducible show wpAny _ _ (exec (Stmt.While _ _ _ _) _) _ _ _)); (fail_if_success (with_reducible show Exists _)); (fail_if_success (with_reducible show wpAny _ _ (eval (Expr.ListComp _ _ _ _) _) _ _ _)); (fail_if_success (with_reducible show LCg.CompSrc _ _ _ _ _ _ _ _ _ _ _ _ _ _)); (fail_if_success (with_reducible show LCt.CompSrcT _ _ _ _ _ _ _ _ _ _ _ _ _ _ _)); (fail_if_success ((with_reducible refine stopAt ?gdK ?gdH); (case gdK => exact rfl)))))); (fail_if_success (with_reducible show wpAny _ _ (exec (Stmt.Assign _ (Expr.ListComp _ _ _ _) _) _) _ _ _)); (fail_if_success (with_reducible show wpAny _ _ (compareOp CmpOp.Eq (Value.ref _) (Value.ref _)) _ _ _)))); dsimp only; walk1) | (leave1; walk_say "STEP leave1"; try dsimp only) | fail "no step")))
