import PyProof.Rows.All
import Wide.All
import OpenK.AllK
import Wide.FinOn
import PyProof.StrLawsTight
import PySem.Sre
import Lean
import PySem.Challenge.RW_gc0004_01

set_option Elab.async false
set_option maxRecDepth 100000
set_option linter.all false

section
namespace Mine
open PySem PySem.Sre

def code3 : Array Nat := #[14,9,4,1,2,16,10,16,13,0,7,7,16,13,16,10,15,18,5,16,10,15,13,11,16,13,5,5,0,16,10,1,15,2,0,1]
def code1 : Array Nat := #[14,4,0,1,1,6,1,16,46,1]

theorem step_fix {m : M} (h : m.outcome.isSome = true) : m.step = m := by
  unfold M.step; rw [if_pos h]
theorem runFor_fix {m : M} (h : m.outcome.isSome = true) : ∀ n, m.runFor n = m
  | 0 => rfl
  | n + 1 => by unfold M.runFor; rw [if_pos h]
theorem runFor_succ (n : Nat) (m : M) : m.runFor (n + 1) = (m.step).runFor n := by
  by_cases h : m.outcome.isSome = true
  · rw [step_fix h, runFor_fix h, runFor_fix h]
  · rw [M.runFor, if_neg h]
theorem runFor_add : ∀ (a b : Nat) (m : M), m.runFor (a + b) = (m.runFor a).runFor b
  | 0, b, m => by rw [Nat.zero_add]; rfl
  | a + 1, b, m => by rw [Nat.succ_add, runFor_succ, runFor_add a b, ← runFor_succ]

/-- the machine gets from m to m' in at most b steps -/
def Goes (b : Nat) (m m' : M) : Prop := ∃ n, n ≤ b ∧ m.runFor n = m'
theorem Goes.refl (m : M) : Goes 0 m m := ⟨0, Nat.le_refl _, rfl⟩
theorem Goes.trans {a b : Nat} {m m' m'' : M} : Goes a m m' → Goes b m' m'' → Goes (a + b) m m'' := fun ⟨n, hn, e⟩ ⟨k, hk, f⟩ => ⟨n + k, Nat.add_le_add hn hk, by rw [runFor_add, e, f]⟩
theorem Goes.le {a b : Nat} {m m' : M} (h : a ≤ b) : Goes a m m' → Goes b m m' := fun ⟨n, hn, e⟩ => ⟨n, Nat.le_trans hn h, e⟩
theorem Goes.one {m m' : M} (h : m.step = m') : Goes 1 m m' := ⟨1, Nat.le_refl _, by rw [runFor_succ, h]; rfl⟩

/-- a machine of ours: no groups -/
abbrev mk (code text : Array Nat) (lim start lastStart pc pos handed : Nat) (om : Bool) (frames : List Sre.Frame) (weight : Nat) (answer : Option Bool) (seen : Seen) : M :=
  { code, text, lim, start, lastStart, wholeText := false, mustAdvance := false, pc, pos, handed, outermost := om, marks := #[], lastmark := -1, lastindex := -1, loops := #[], inner := none, frames, weight, answer, seen, outcome := none }

def kept0 : PySem.Sre.Kept := { lastmark := -1, lastindex := -1, whole := false, marks := #[] }



section
variable {text : Array Nat} {lim start ls s hd s0 : Nat} {om om' : Bool} {sn : Seen}
abbrev f0 (pc s : Nat) (om : Bool) : Sre.Frame := { wait := .nextStart, pc, pos := s, outermost := om }

set_option maxHeartbeats 1000000
theorem r3_10 (hs : s < lim) (hc : text.getD s 0 = 10) :
    ∃ sn', (mk code3 text lim start ls 10 s hd om [f0 10 s om'] 1 none sn).runFor 9 = { mk code3 text lim start ls 10 s (s+1) om' [] 0 (some true) sn' with outcome := some .matched } := by
  have hs' : ¬ lim ≤ s := Nat.not_le.mpr hs
  refine ⟨?w, ?_⟩
  rotate_left
  simp [M.runFor, M.step, M.exec, M.word, code3, ops, M.alternative, M.attempt, M.frame, M.keep, M.resume, M.say, accepts, hs', hc, M.putBack, itemWidth]
  exact rfl
theorem r3_1310 (hs : s < lim) (hc : text.getD s 0 = 13) (hs2 : s + 1 < lim) (hc2 : text.getD (s + 1) 0 = 10) :
    ∃ sn', (mk code3 text lim start ls 10 s hd om [f0 10 s om'] 1 none sn).runFor 8 = { mk code3 text lim start ls 10 s (s+2) om' [] 0 (some true) sn' with outcome := some .matched } := by
  have hs' : ¬ lim ≤ s := Nat.not_le.mpr hs
  have hs2' : ¬ lim ≤ s + 1 := Nat.not_le.mpr hs2
  refine ⟨?w, ?_⟩
  rotate_left
  simp [M.runFor, M.step, M.exec, M.word, code3, ops, M.alternative, M.attempt, M.frame, M.keep, M.resume, M.say, accepts, hs', hc, hs2', hc2, M.putBack, itemWidth]
  exact rfl


abbrev nb (pc s : Nat) (om : Bool) : Sre.Frame := { wait := .nextBranch, pc, pos := s, outermost := om, kept := kept0 }
abbrev ln (pc s : Nat) (om : Bool) : Sre.Frame := { wait := .lookNot, pc, pos := s, outermost := om, kept := kept0 }
theorem a1 (hs : s < lim) (hc : text.getD s 0 = 13) :
    ∃ sn', (mk code3 text lim start ls 10 s hd om [f0 10 s om'] 1 none sn).runFor 2 = mk code3 text lim start ls 14 (s+1) s om [nb 11 s om, f0 10 s om'] 2 none sn' := by
  have hs' : ¬ lim ≤ s := Nat.not_le.mpr hs
  refine ⟨?w, ?_⟩
  rotate_left
  simp [M.runFor, M.step, M.exec, M.word, code3, ops, M.alternative, M.attempt, M.frame, M.keep, M.resume, M.say, accepts, M.putBack, itemWidth, kept0, hs', hc]
  exact rfl
theorem a2 (h2 : lim ≤ s + 1 ∨ text.getD (s + 1) 0 ≠ 10) :
    ∃ sn', (mk code3 text lim start ls 14 (s+1) hd om [nb 11 s om, f0 10 s om'] 2 none sn).runFor 2 = mk code3 text lim start ls 19 s s om [nb 18 s om, f0 10 s om'] 2 none sn' := by
  by_cases hl : lim ≤ s + 1
  · refine ⟨?w, ?_⟩
    rotate_left
    simp [M.runFor, M.step, M.exec, M.word, code3, ops, M.alternative, M.attempt, M.frame, M.keep, M.resume, M.say, accepts, M.putBack, itemWidth, kept0, hl]
    exact rfl
  · have h3 : (text[s + 1]?.getD 0 == 10) = false := by simpa using h2.resolve_left hl
    refine ⟨?w, ?_⟩
    rotate_left
    simp [M.runFor, M.step, M.exec, M.word, code3, ops, M.alternative, M.attempt, M.frame, M.keep, M.resume, M.say, accepts, M.putBack, itemWidth, kept0, hl, h3]
theorem a3 (hs : s < lim) (hc : text.getD s 0 = 13) :
    ∃ sn', (mk code3 text lim start ls 19 s hd om [nb 18 s om, f0 10 s om'] 2 none sn).runFor 2 = mk code3 text lim start ls 24 s s om [nb 23 s om, f0 10 s om'] 2 none sn' := by
  have hs' : ¬ lim ≤ s := Nat.not_le.mpr hs
  refine ⟨?w, ?_⟩
  rotate_left
  simp [M.runFor, M.step, M.exec, M.word, code3, ops, M.alternative, M.attempt, M.frame, M.keep, M.resume, M.say, accepts, M.putBack, itemWidth, kept0, hs', hc]
  exact rfl
theorem a4 (hs : s < lim) (hc : text.getD s 0 = 13) :
    ∃ sn', (mk code3 text lim start ls 24 s hd om [nb 23 s om, f0 10 s om'] 2 none sn).runFor 2 = mk code3 text lim start ls 29 (s+1) (s+1) false [ln 26 (s+1) om, nb 23 s om, f0 10 s om'] 3 none sn' := by
  have hs' : ¬ lim ≤ s := Nat.not_le.mpr hs
  refine ⟨?w, ?_⟩
  rotate_left
  simp [M.runFor, M.step, M.exec, M.word, code3, ops, M.alternative, M.attempt, M.frame, M.keep, M.resume, M.say, accepts, M.putBack, itemWidth, kept0, hs', hc]
  exact rfl
theorem a5 {o3 : Bool} (h2 : lim ≤ s + 1 ∨ text.getD (s + 1) 0 ≠ 10) :
    ∃ sn', (mk code3 text lim start ls 29 (s+1) hd o3 [ln 26 (s+1) om, nb 23 s om, f0 10 s om'] 3 none sn).runFor 2 = mk code3 text lim start ls 32 (s+1) hd om [nb 23 s om, f0 10 s om'] 2 none sn' := by
  by_cases hl : lim ≤ s + 1
  · refine ⟨?w, ?_⟩
    rotate_left
    simp [M.runFor, M.step, M.exec, M.word, code3, ops, M.alternative, M.attempt, M.frame, M.keep, M.resume, M.say, accepts, M.putBack, itemWidth, kept0, hl]
    exact rfl
  · have h3 : (text[s + 1]?.getD 0 == 10) = false := by simpa using h2.resolve_left hl
    refine ⟨?w, ?_⟩
    rotate_left
    simp [M.runFor, M.step, M.exec, M.word, code3, ops, M.alternative, M.attempt, M.frame, M.keep, M.resume, M.say, accepts, M.putBack, itemWidth, kept0, hl, h3]
theorem a6 :
    ∃ sn', (mk code3 text lim start ls 32 (s+1) hd om [nb 23 s om, f0 10 s om'] 2 none sn).runFor 5 = { mk code3 text lim start ls 10 s (s+1) om' [] 0 (some true) sn' with outcome := some .matched } := by
  refine ⟨?w, ?_⟩
  rotate_left
  simp [M.runFor, M.step, M.exec, M.word, code3, ops, M.alternative, M.attempt, M.frame, M.keep, M.resume, M.say, accepts, M.putBack, itemWidth, kept0]
  exact rfl
end

theorem inSet3 (c : Nat) (sn : Seen) : ∃ sn', inSet code3 c code3.size 5 true sn = .ok (c == 10 || c == 13, sn') := by
  by_cases h : c = 10
  · subst h; exact ⟨_, rfl⟩
  · by_cases h' : c = 13
    · subst h'; exact ⟨_, rfl⟩
    · have e1 : (c == 10) = false := by simpa using h
      have e2 : (c == 13) = false := by simpa using h'
      refine ⟨?w, ?_⟩
      rotate_left
      simp [code3, inSet, ops, e1, e2, h, h']
      exact rfl

/-- the first place at or behind s that holds an end -/
noncomputable def nl (text : Array Nat) (lim : Nat) : (fuel s : Nat) → Option Nat
  | 0, _ => none
  | f + 1, s => if s ≥ lim then none else if text.getD s 0 = 10 ∨ text.getD s 0 = 13 then some s else nl text lim f (s + 1)

theorem admitted3 (m : M) (hcode : m.code = code3) : ∀ (f s : Nat) (sn : Seen), ∃ sn', M.admitted m f s sn = .ok (nl m.text m.lim f s, sn')
  | 0, s, sn => ⟨sn, rfl⟩
  | f + 1, s, sn => by
    unfold M.admitted nl
    by_cases h : s ≥ m.lim
    · rw [if_pos h, if_pos h]; exact ⟨_, rfl⟩
    · rw [if_neg h, if_neg h, hcode]
      obtain ⟨sn', e⟩ := inSet3 (m.text.getD s 0) sn
      rw [e]
      by_cases hc : m.text.getD s 0 = 10 ∨ m.text.getD s 0 = 13
      · rw [if_pos hc]
        have : (m.text.getD s 0 == 10 || m.text.getD s 0 == 13) = true := by simpa using hc
        rw [this]; exact ⟨_, rfl⟩
      · rw [if_neg hc]
        have : (m.text.getD s 0 == 10 || m.text.getD s 0 == 13) = false := by simpa using hc
        rw [this]
        exact admitted3 m hcode f (s + 1) sn'

theorem nl_spec {text : Array Nat} {lim : Nat} : ∀ {f s b : Nat}, nl text lim f s = some b → s ≤ b ∧ b < lim ∧ (text.getD b 0 = 10 ∨ text.getD b 0 = 13)
  | 0, _, _, h => by cases h
  | f + 1, s, b, h => by
    unfold nl at h
    split at h
    · cases h
    · split at h
      · cases h; exact ⟨Nat.le_refl _, by omega, by assumption⟩
      · have := nl_spec h; exact ⟨by omega, this.2⟩

/-- what a search that begins at d finds: from, to -/
noncomputable def next3 (text : Array Nat) (d : Nat) : Option (Nat × Nat) :=
  match nl text text.size (text.size + 1 - d) d with
  | none => none
  | some b => some (b, if text.getD b 0 = 13 ∧ b + 1 < text.size ∧ text.getD (b + 1) 0 = 10 then b + 2 else b + 1)

/-- the search from d ends with what next says -/
def Finds (code text : Array Nat) (next : Nat → Option (Nat × Nat)) : Prop :=
  ∀ d, d ≤ text.size → ∃ n, n ≤ 100 * (text.size + 2) ∧ (match next d with
    | none => ((forSearch code text 0 d text.size false).runFor n).outcome = some .failed
    | some (b, e) => d ≤ b ∧ b < e ∧ e ≤ text.size ∧ ((forSearch code text 0 d text.size false).runFor n).outcome = some .matched ∧ ((forSearch code text 0 d text.size false).runFor n).start = b ∧ ((forSearch code text 0 d text.size false).runFor n).handed = e)



theorem r3_13 (text : Array Nat) (lim start ls s hd : Nat) (om om' : Bool) (sn : Seen) (hs : s < lim) (hc : text.getD s 0 = 13) (h2 : lim ≤ s + 1 ∨ text.getD (s + 1) 0 ≠ 10) :
    ∃ sn', (mk code3 text lim start ls 10 s hd om [f0 10 s om'] 1 none sn).runFor 15 = { mk code3 text lim start ls 10 s (s+1) om' [] 0 (some true) sn' with outcome := some .matched } := by
  obtain ⟨n1, e1⟩ := a1 (start := start) (ls := ls) (hd := hd) (om := om) (om' := om') (sn := sn) hs hc
  obtain ⟨n2, e2⟩ := a2 (start := start) (ls := ls) (hd := s) (om := om) (om' := om') (sn := n1) h2
  obtain ⟨n3, e3⟩ := a3 (start := start) (ls := ls) (hd := s) (om := om) (om' := om') (sn := n2) hs hc
  obtain ⟨n4, e4⟩ := a4 (start := start) (ls := ls) (hd := s) (om := om) (om' := om') (sn := n3) hs hc
  obtain ⟨n5, e5⟩ := a5 (start := start) (ls := ls) (hd := s+1) (om := om) (om' := om') (o3 := false) (sn := n4) h2
  obtain ⟨n6, e6⟩ := a6 (text := text) (lim := lim) (start := start) (ls := ls) (s := s) (hd := s+1) (om := om) (om' := om') (sn := n5)
  refine ⟨n6, ?_⟩
  rw [show (15:Nat) = 2 + (2 + (2 + (2 + (2 + 5)))) from rfl, runFor_add, e1, runFor_add, e2, runFor_add, e3, runFor_add, e4, runFor_add, e5, e6]

theorem forSearch3 (text : Array Nat) (d : Nat) : forSearch code3 text 0 d text.size false = (if (d > text.size || text.size - d < 1) = true then (mk code3 text text.size d 0 10 d d true [] 0 none (({} : Seen).add 14)).say false
      else { (mk code3 text text.size d 0 10 d d true [] 0 none (({} : Seen).add 14)) with lastStart := text.size }.attemptFrom d true) := rfl

theorem finds3 (text : Array Nat) : Finds code3 text (next3 text) := by
  intro d hd
  rw [forSearch3]
  by_cases h : (d > text.size || text.size - d < 1) = true
  · rw [if_pos h]
    have hds : d = text.size := by simp at h; omega
    have hn : next3 text d = none := by
      unfold next3
      have : nl text text.size (text.size + 1 - d) d = none := by
        rw [show text.size + 1 - d = 0 + 1 by omega]
        unfold nl; rw [if_pos (by omega)]
      rw [this]
    rw [hn]
    exact ⟨1, by omega, rfl⟩
  · rw [if_neg h]
    obtain ⟨sn', ea⟩ := admitted3 { (mk code3 text text.size d 0 10 d d true [] 0 none (({} : Seen).add 14)) with lastStart := text.size } rfl (text.size + 1 - d) d (({} : Seen).add 14)
    have hat : M.attemptFrom { (mk code3 text text.size d 0 10 d d true [] 0 none (({} : Seen).add 14)) with lastStart := text.size } d true = (match M.admitted { (mk code3 text text.size d 0 10 d d true [] 0 none (({} : Seen).add 14)) with lastStart := text.size } (text.size + 1 - d) d (({} : Seen).add 14) with
      | .ok (some s, seen) => { (mk code3 text text.size d text.size 10 d d true [] 0 none (({} : Seen).add 14)) with mustAdvance := false, seen }.attemptAt s true
      | .ok (none, seen) => { (mk code3 text text.size d text.size 10 d d true [] 0 none (({} : Seen).add 14)) with seen }.say false
      | .error why => { (mk code3 text text.size d 0 10 d d true [] 0 none (({} : Seen).add 14)) with lastStart := text.size }.stick why) := rfl
    rw [hat, ea]
    show ∃ n, n ≤ _ ∧ _
    unfold next3
    show ∃ n, n ≤ _ ∧ _
    cases hb : nl text text.size (text.size + 1 - d) d with
    | none => exact ⟨1, by omega, rfl⟩
    | some b =>
      obtain ⟨h1, h2, h3⟩ := nl_spec hb
      have hst : ({ (mk code3 text text.size d text.size 10 d d true [] 0 none (({} : Seen).add 14)) with mustAdvance := false, seen := sn' } : M).attemptAt b true = mk code3 text text.size b text.size 10 b b true [f0 10 b true] 1 none sn' := rfl
      dsimp only
      rw [hst]
      by_cases c13 : text.getD b 0 = 13
      · by_cases c2 : b + 1 < text.size ∧ text.getD (b + 1) 0 = 10
        · obtain ⟨n1, e1⟩ := r3_1310 (start := b) (ls := text.size) (hd := b) (om := true) (om' := true) (sn := sn') h2 c13 c2.1 c2.2
          rw [if_pos ⟨c13, c2⟩]
          exact ⟨8, by omega, by rw [e1]; exact ⟨h1, by omega, by omega, rfl, rfl, rfl⟩⟩
        · obtain ⟨n1, e1⟩ := r3_13 text text.size b text.size b b true true sn' h2 c13 (by
            by_cases q : b + 1 < text.size
            · exact .inr fun e => c2 ⟨q, e⟩
            · exact .inl (by omega))
          rw [if_neg (fun h => c2 h.2)]
          exact ⟨15, by omega, by rw [e1]; exact ⟨h1, by omega, by omega, rfl, rfl, rfl⟩⟩
      · obtain ⟨n1, e1⟩ := r3_10 (start := b) (ls := text.size) (hd := b) (om := true) (om' := true) (sn := sn') h2 (h3.resolve_right c13)
        rw [if_neg (fun h => c13 h.1)]
        exact ⟨9, by omega, by rw [e1]; exact ⟨h1, by omega, by omega, rfl, rfl, rfl⟩⟩

/-! the first and the second pattern: a point at a row's beginning -/
section
variable {text : Array Nat} {lim start ls s hd s0 : Nat} {om om' : Bool} {sn : Seen}
theorem b_hit (hs : s < lim) (h0 : s = 0 ∨ text.getD (s - 1) 0 = 10) (hc : text.getD s 0 = 46) :
    ∃ sn', (mk code1 text lim start ls 5 s hd om [f0 5 s om'] 1 none sn).runFor 5 = { mk code1 text lim start ls 5 s (s+1) om' [] 0 (some true) sn' with outcome := some .matched } := by
  have hs' : ¬ lim ≤ s := Nat.not_le.mpr hs
  have hz : (s == 0 || text[s - 1]?.getD 0 == 10) = true := by simpa using h0
  refine ⟨?w, ?_⟩
  rotate_left
  simp [M.runFor, M.step, M.exec, M.word, code1, ops, M.attempt, M.frame, M.keep, M.resume, M.say, accepts, M.putBack, itemWidth, M.isAt, hs', hc, hz, -Bool.or_eq_true]
  exact rfl
/-- AT fails -/
theorem b_at (h0 : s ≠ 0) (h1 : text.getD (s - 1) 0 ≠ 10) :
    ∃ sn', (mk code1 text lim start ls 5 s hd om [f0 5 s om'] 1 none sn).runFor 1 = mk code1 text lim start ls 5 s hd om [f0 5 s om'] 1 (some false) sn' := by
  have h3 : (text[s - 1]?.getD 0 == 10) = false := by simpa using h1
  refine ⟨?w, ?_⟩
  rotate_left
  simp [M.runFor, M.step, M.exec, M.word, code1, ops, M.say, M.isAt, h0, h3]
  exact rfl
theorem b_atok (h0 : s = 0 ∨ text.getD (s - 1) 0 = 10) :
    ∃ sn', (mk code1 text lim start ls 5 s hd om [f0 5 s om'] 1 none sn).runFor 1 = mk code1 text lim start ls 7 s hd om [f0 5 s om'] 1 none sn' := by
  have hz : (s == 0 || text[s - 1]?.getD 0 == 10) = true := by simpa using h0
  refine ⟨?w, ?_⟩
  rotate_left
  simp [M.runFor, M.step, M.exec, M.word, code1, ops, M.say, M.isAt, hz, -Bool.or_eq_true]
  exact rfl
theorem b_char (h0 : lim ≤ s ∨ text.getD s 0 ≠ 46) :
    ∃ sn', (mk code1 text lim start ls 7 s hd om [f0 5 s om'] 1 none sn).runFor 1 = mk code1 text lim start ls 7 s hd om [f0 5 s om'] 1 (some false) sn' := by
  by_cases hl : lim ≤ s
  · refine ⟨?w, ?_⟩
    rotate_left
    simp [M.runFor, M.step, M.exec, M.word, code1, ops, M.say, hl]
    exact rfl
  · have h3 : (text[s]?.getD 0 == 46) = false := by simpa using h0.resolve_left hl
    refine ⟨?w, ?_⟩
    rotate_left
    simp [M.runFor, M.step, M.exec, M.word, code1, ops, M.say, hl, accepts, h3]
theorem b_fail {pc : Nat} (hs : ls ≤ s) : (mk code1 text lim start ls pc s hd om [f0 5 s om'] 1 (some false) sn).runFor 2 = { mk code1 text lim start ls 5 s hd om' [] 0 (some false) sn with outcome := some .failed } := by
  simp [M.runFor, M.step, M.resume, M.say, Nat.not_lt.mpr hs]
theorem b_next {pc : Nat} (hs : s < ls) : (mk code1 text lim start ls pc s hd om [f0 5 s om'] 1 (some false) sn).runFor 1 = mk code1 text lim (s + 1) ls 5 (s + 1) (s + 1) false [f0 5 (s + 1) false] 1 none sn := by
  simp [M.runFor, M.step, M.resume, M.say, hs, M.attemptFrom, M.hasFirstSet, M.attemptAt, M.attempt, code1, ops]
end

/-- the first place at or behind s where a row begins with a point -/
noncomputable def bp (text : Array Nat) (lim : Nat) : (fuel s : Nat) → Option Nat
  | 0, _ => none
  | f + 1, s => if s ≥ lim then none else if (s = 0 ∨ text.getD (s - 1) 0 = 10) ∧ text.getD s 0 = 46 then some s else bp text lim f (s + 1)
noncomputable def next1 (text : Array Nat) (d : Nat) : Option (Nat × Nat) :=
  match bp text text.size (text.size + 1 - d) d with
  | none => none
  | some b => some (b, b + 1)
theorem bp_spec {text : Array Nat} {lim : Nat} : ∀ {f s b : Nat}, bp text lim f s = some b → s ≤ b ∧ b < lim ∧ (b = 0 ∨ text.getD (b - 1) 0 = 10) ∧ text.getD b 0 = 46
  | 0, _, _, h => by cases h
  | f + 1, s, b, h => by
    unfold bp at h
    split at h
    · cases h
    · split at h
      · rename_i h1 h2; cases h; exact ⟨Nat.le_refl _, by omega, h2⟩
      · have := bp_spec h; exact ⟨by omega, this.2⟩

theorem run1 (text : Array Nat) : ∀ (f s start hd : Nat) (om om' : Bool) (sn : Seen), s + f = text.size + 1 → 1 ≤ f → ∃ n, n ≤ 4 * f + 2 ∧ (match bp text text.size f s with
    | none => ((mk code1 text text.size start text.size 5 s hd om [f0 5 s om'] 1 none sn).runFor n).outcome = some .failed
    | some b => ((s = b ∧ start = s) ∨ s ≠ b → ((mk code1 text text.size start text.size 5 s hd om [f0 5 s om'] 1 none sn).runFor n).start = b) ∧ ((mk code1 text text.size start text.size 5 s hd om [f0 5 s om'] 1 none sn).runFor n).outcome = some .matched ∧ ((mk code1 text text.size start text.size 5 s hd om [f0 5 s om'] 1 none sn).runFor n).handed = b + 1)
  | 0, _, _, _, _, _, _, _, hf => absurd hf (by decide)
  | f + 1, s, start, hd, om, om', sn, hsf, _ => by
    unfold bp
    by_cases hhit : s < text.size ∧ (s = 0 ∨ text.getD (s - 1) 0 = 10) ∧ text.getD s 0 = 46
    · obtain ⟨n1, e1⟩ := b_hit (start := start) (ls := text.size) (hd := hd) (om := om) (om' := om') (sn := sn) hhit.1 hhit.2.1 hhit.2.2
      rw [if_neg (by omega), if_pos hhit.2]
      refine ⟨5, by omega, ?_⟩
      dsimp only
      rw [e1]
      refine ⟨fun q => ?_, rfl, rfl⟩
      rcases q with q | q
      · exact q.2
      · exact absurd rfl q
    · -- the attempt fails
      have hfail : ∃ k pc sn', k ≤ 2 ∧ (mk code1 text text.size start text.size 5 s hd om [f0 5 s om'] 1 none sn).runFor k = mk code1 text text.size start text.size pc s hd om [f0 5 s om'] 1 (some false) sn' := by
        by_cases h0 : s = 0 ∨ text.getD (s - 1) 0 = 10
        · obtain ⟨n1, e1⟩ := b_atok (text := text) (lim := text.size) (start := start) (ls := text.size) (hd := hd) (om := om) (om' := om') (sn := sn) h0
          obtain ⟨n2, e2⟩ := b_char (text := text) (lim := text.size) (s := s) (start := start) (ls := text.size) (hd := hd) (om := om) (om' := om') (sn := n1) (by
            by_cases q : s < text.size
            · exact .inr fun e => hhit ⟨q, h0, e⟩
            · exact .inl (by omega))
          exact ⟨2, 7, n2, Nat.le_refl _, by rw [show (2 : Nat) = 1 + 1 from rfl, runFor_add, e1, e2]⟩
        · obtain ⟨n1, e1⟩ := b_at (text := text) (lim := text.size) (start := start) (ls := text.size) (hd := hd) (om := om) (om' := om') (sn := sn) (fun e => h0 (.inl e)) (fun e => h0 (.inr e))
          exact ⟨1, 5, n1, by decide, e1⟩
      obtain ⟨k, pc, sn', hk, ek⟩ := hfail
      by_cases hs : s < text.size
      · rw [if_neg (by omega), if_neg (fun q => hhit ⟨hs, q⟩)]
        obtain ⟨n, hn, hr⟩ := run1 text f (s + 1) (s + 1) (s + 1) false false sn' (by omega) (by omega)
        have ee : (mk code1 text text.size start text.size 5 s hd om [f0 5 s om'] 1 none sn).runFor (k + (1 + n)) = (mk code1 text text.size (s + 1) text.size 5 (s + 1) (s + 1) false [f0 5 (s + 1) false] 1 none sn').runFor n := by
          rw [runFor_add, ek, runFor_add, b_next hs]
        refine ⟨k + (1 + n), by omega, ?_⟩
        rw [ee]
        cases hb : bp text text.size f (s + 1) with
        | none => rw [hb] at hr; exact hr
        | some b =>
          rw [hb] at hr
          refine ⟨fun _ => hr.1 ?_, hr.2⟩
          by_cases q : s + 1 = b
          · exact .inl ⟨q, rfl⟩
          · exact .inr q
      · rw [if_pos (by omega)]
        refine ⟨k + 2, by omega, ?_⟩
        dsimp only
        rw [runFor_add, ek, b_fail (by omega)]

theorem forSearch1 (text : Array Nat) (d : Nat) : forSearch code1 text 0 d text.size false = (if (d > text.size || text.size - d < 1) = true then (mk code1 text text.size d 0 5 d d true [] 0 none (({} : Seen).add 14)).say false
      else mk code1 text text.size d text.size 5 d d true [f0 5 d true] 1 none (({} : Seen).add 14)) := rfl

theorem finds1 (text : Array Nat) : Finds code1 text (next1 text) := by
  intro d hd
  rw [forSearch1]
  by_cases h : (d > text.size || text.size - d < 1) = true
  · rw [if_pos h]
    have hds : d = text.size := by simp at h; omega
    have hn : next1 text d = none := by
      unfold next1
      have : bp text text.size (text.size + 1 - d) d = none := by
        rw [show text.size + 1 - d = 0 + 1 by omega]
        unfold bp; rw [if_pos (by omega)]
      rw [this]
    rw [hn]
    exact ⟨1, by omega, rfl⟩
  · rw [if_neg h]
    obtain ⟨n, hn, hr⟩ := run1 text (text.size + 1 - d) d d d true true (({} : Seen).add 14) (by omega) (by omega)
    refine ⟨n, by omega, ?_⟩
    unfold next1
    cases hb : bp text text.size (text.size + 1 - d) d with
    | none => rw [hb] at hr; exact hr
    | some b =>
      obtain ⟨h1, h2, h3⟩ := bp_spec hb
      rw [hb] at hr
      refine ⟨h1, Nat.lt_succ_self _, h2, hr.2.1, hr.1 ?_, hr.2.2⟩
      by_cases q : d = b
      · exact .inl ⟨q, rfl⟩
      · exact .inr q
end Mine
end

section
open PySem PySem.W PyProof.Rows
namespace Mine
open PySem.Builtin.Re

theorem slot_sub : Slot "re.Pattern" "sub" "re.Pattern.sub" :=
  .of (owner := "re.Pattern") (n := "sub") (by rw [typeLookup_type, builtinLookup_eq_fast]; kernel_rfl) (by decide +kernel) (by decide +kernel) (by decide +kernel)
    (by first | exact .inl (by decide +kernel) | exact .inr (by decide +kernel)) (by rw [isSubtype_type]; kernel_rfl)
theorem type_sub : typeOf (.builtin "re.Pattern.sub") = pure (.type "method_descriptor") := by show builtinType _ = _; rw [builtinType_eq_fast]; kernel_rfl
theorem entry_sub : entryFor table "re.Pattern.sub" = some Builtin.«re.Pattern.sub» := entryFor_of_tree (by kernel_rfl)
theorem entry_subloop : entryFor table "re.Pattern.sub.loop" = some Builtin.«re.Pattern.sub.loop» := entryFor_of_tree (by kernel_rfl)
theorem args_sub (a b c : Value) : argsOk "re.Pattern.sub" ⟨[a, b, c], []⟩ := by
  unfold argsOk; kernel_rfl
theorem quiet_subloop (args : Args) : (Code.builtin "re.Pattern.sub.loop" args).quiet = true := Code.quiet_builtin args (by decide +kernel)

section
variable {prog : Program} {w : World} {A : Around} {E : Value → Shared → Prop} {s : Shared}

theorem wp_drive {Q : Sre.M → Shared → Prop} : ∀ (turns n : Nat) (m : Sre.M), n ≤ 4 * turns → 0 < turns → (m.runFor n).outcome.isSome = true → Q (m.runFor n) s → wpAny (model prog w) A (reDrive turns m) Q E s
  | 0, n, m, _, h0, _, _ => absurd h0 (by decide)
  | turns + 1, n, m, hn, _, ho, hQ => by
    show wpAny _ _ (if (m.runFor reTurnSteps).outcome.isSome = true then pure (m.runFor reTurnSteps) else (do rule "sre.turn"; reDrive turns (m.runFor reTurnSteps))) Q E s
    have e4 : m.runFor reTurnSteps = m.runFor 4 := rfl
    by_cases h4 : n ≤ 4
    · have e : m.runFor 4 = m.runFor n := by
        have e9 := runFor_add n (4 - n) m
        rw [Nat.add_sub_of_le h4] at e9
        rw [e9, runFor_fix ho]
      rw [e4, e, if_pos ho]
      exact wpAny_pure hQ
    · have e : m.runFor n = (m.runFor 4).runFor (n - 4) := by
        rw [← runFor_add]; congr 1; omega
      rw [e4]
      by_cases h : (m.runFor 4).outcome.isSome = true
      · rw [if_pos h]
        rw [e, runFor_fix h] at hQ
        exact wpAny_pure hQ
      · rw [if_neg h]
        rw [e] at ho hQ
        exact wpAny_bind (wpAny_rule (wp_drive turns (n - 4) _ (by omega) (by omega) ho hQ))

theorem wp_rules {Q : PUnit → Shared → Prop} (c : Nat → Bool) (tag : Nat → String) (h : Q ⟨⟩ s) : ∀ l : List Nat, wpAny (model prog w) A (forIn l (⟨⟩ : PUnit) fun i _ => (do
      if c i = true then rule (tag i)
      pure (ForInStep.yield ⟨⟩) : Sem (ForInStep PUnit))) Q E s
  | [] => by rw [List.forIn_nil]; exact wpAny_pure h
  | i :: l => by
    rw [List.forIn_cons]
    refine wpAny_bind ?_
    by_cases hc : c i = true
    · rw [if_pos hc]
      exact wpAny_bind (wpAny_rule (wpAny_pure (wp_rules c tag h l)))
    · rw [if_neg hc]
      exact wpAny_pure (wp_rules c tag h l)

theorem wp_run {m : Sre.M} {n : Nat} {Q : Option Sre.M → Shared → Prop} (hn : n ≤ 4 * 2 ^ 64) (ho : (m.runFor n).outcome.isSome = true)
    (h : match (m.runFor n).outcome with | some .matched => Q (some (m.runFor n)) s | some .failed => Q none s | _ => False) : wpAny (model prog w) A (reRunToEnd m) Q E s := by
  refine wpAny_bind (wp_drive (2 ^ 64) n m hn (by decide) ho ?_)
  refine wpAny_bind (wp_rules (fun i => (m.runFor n).seen.has i) (fun i => Sre.names.getD i "") ?_ _)
  revert h
  cases hq : (m.runFor n).outcome with
  | none => exact fun h => h.elim
  | some o => cases o with
    | matched => exact fun h => wpAny_pure h
    | failed => exact fun h => wpAny_pure h
    | stuck why => exact fun h => h.elim

theorem wp_next {code text : Array Nat} {next : Nat → Option (Nat × Nat)} (hf : Finds code text next) {d : Nat} (hd : d ≤ text.size) (hsz : text.size ≤ 1048576) {Q : Option Sre.M → Shared → Prop}
    (h0 : next d = none → Q none s) (h1 : ∀ b e m, next d = some (b, e) → d ≤ b → b < e → e ≤ text.size → m.start = b → m.handed = e → Q (some m) s) :
    wpAny (model prog w) A (reRunToEnd (Sre.forSearch code text 0 d text.size false)) Q E s := by
  obtain ⟨n, hn, hr⟩ := hf d hd
  revert hr
  cases hx : next d with
  | none =>
    intro hr
    refine wp_run (n := n) (by omega) ?_ ?_
    · dsimp only at hr; rw [hr]; rfl
    · dsimp only at hr; rw [hr]; exact h0 hx
  | some p =>
    obtain ⟨b, e⟩ := p
    intro hr
    dsimp only at hr
    obtain ⟨h2, h3, h4, h5, h6, h7⟩ := hr
    refine wp_run (n := n) (by omega) ?_ ?_
    · rw [h5]; rfl
    · rw [h5]; exact h1 b e _ hx h2 h3 h4 h6 h7
end
end Mine
end

section
open PySem PySem.W PyProof.Rows
namespace Mine
open PySem.Builtin.Re

/-- what a substitution of all finds glues -/
noncomputable def pieces {α : Type} (next : Nat → Option (Nat × Nat)) (X repl : Array α) : Nat → Nat → List (Array α)
  | 0, _ => []
  | f + 1, d => match next d with
    | none => if d < X.size then [X.extract d X.size] else []
    | some (b, e) => (if d < b then [X.extract d b] else []) ++ (repl :: pieces next X repl f e)

/-- the pattern's object and its code stand in the heap -/
def Pat (h : Heap) (p c : Addr) (kind : Int) (code : Array Nat) : Prop :=
  ∃ cl d a0 a1 a3 a4 sl cl' d' cs n sl', h.get? p = some ⟨cl, d, .fields #[a0, a1, .int 0 0, a3, a4, .ref c, .int kind 0], sl⟩ ∧ h.get? c = some ⟨cl', d', .seq cs n, sl'⟩ ∧ (cs.map reRawOf).map (·.toNat) = code
theorem Pat.keeps {h h' : Heap} {p c : Addr} {kind : Int} {code : Array Nat} (x : Pat h p c kind code) (k : ∀ b o, h.get? b = some o → h'.get? b = some o) : Pat h' p c kind code := by
  obtain ⟨cl, d, a0, a1, a3, a4, sl, cl', d', cs, n, sl', h1, h2, h3⟩ := x
  exact ⟨cl, d, a0, a1, a3, a4, sl, cl', d', cs, n, sl', k _ _ h1, k _ _ h2, h3⟩
theorem Pat.sameBut {h h' : Heap} {p c D : Addr} {kind : Int} {code : Array Nat} (x : Pat h p c kind code) (k : Heap.SameBut D h h') (hp : p ≠ D) (hc : c ≠ D) : Pat h' p c kind code := by
  obtain ⟨cl, d, a0, a1, a3, a4, sl, cl', d', cs, n, sl', h1, h2, h3⟩ := x
  exact ⟨cl, d, a0, a1, a3, a4, sl, cl', d', cs, n, sl', (k.2 _ hp).trans h1, (k.2 _ hc).trans h2, h3⟩

section
variable {prog : Program} {w : World} {A : Around} {E : Value → Shared → Prop} {s : Shared} {p c : Addr} {code : Array Nat}
theorem wp_whole0 {x : Str} {t : Tok} {Q : ReTarget → Shared → Prop} (P : Pat s.heap p c 0 code)
    (h : Q { pattern := .ref p, string := .str x t, code := code, text := x.cps, kind := 0, groups := 0, pos := 0, lim := x.cps.size } s) : wpAny (model prog w) A (reWholeTarget (.ref p) (.str x t)) Q E s := by
  obtain ⟨cl, d, a0, a1, a3, a4, sl, cl', d', cs, n, sl', h1, h2, h3⟩ := P
  refine wpAny_bind (wpAny_bind (wpAny_load h1 (wpAny_pure ?_)))
  refine wpAny_bind (wpAny_pure ?_)
  refine wpAny_bind (wpAny_pure ?_)
  refine wpAny_bind (wpAny_bind (wpAny_bind (wpAny_load h2 (wpAny_pure (wpAny_pure ?_)))))
  refine wpAny_pure ?_
  rw [show (((some cs).getD #[]).map reRawOf).map (·.toNat) = code from h3]
  exact h

theorem strsAre_push {its : Array Value} {ys : List PySem.Str} {y : PySem.Str} {t : Tok} (h : StrsAre its.toList ys) : StrsAre (its.push (.str y t)).toList (ys ++ [y]) := by
  rw [Array.toList_push]
  exact kct_snoc h
theorem strsAre_len {vs : List Value} {ys : List PySem.Str} (h : StrsAre vs ys) : vs.length = ys.length := by
  induction h with
  | nil => rfl
  | cons y t _ ih => simp [ih]

/-- a list that is pushed upon -/
theorem wp_push {D : Addr} {its : Array Value} {n : Nat} {v : Value} {Q : Unit → Shared → Prop} (ho : s.heap.get? D = some { cls := .type "list", data := .seq its n })
    (h : ∀ h', Heap.SameBut D s.heap h' → h'.get? D = some { cls := .type "list", data := .seq (its.push v) (n + 1) } → Q () { s with heap := h' })
    (hsz : its.size ≤ 1048576) : wpAny (model prog w) A (updateSeq D (·.push v)) Q E s := by
  have hz : its.size ≤ sizeLine := Nat.le_trans hsz (by rw [sizeLine_eq]; decide)
  refine wpAny_updateSeq ho rfl (h _ (Heap.SameBut.update ..) ?_) hz (by rw [Array.size_push]; omega)
  rw [Heap.get?_update_self _ ho rfl]
  simp [Obj.mapSeq]


theorem sub_tail0 {x : PySem.Str} {T : List PySem.Str} {D : Addr} {its : Array Value} {k : Nat} {A' : Around} {R : Result → Shared → Prop} {n : Int} (hT : (T.map (·.length)).sum + T.length ≤ 1048576)
    (hD : s.heap.get? D = some { cls := .type "list", data := .seq its k }) (hI : StrsAre its.toList T)
    (hR : ∀ tk t', R (.ok (.ret (.str (Txt.join ⟨#[]⟩ T) t'))) { s with toks := tk }) :
    wpAny (model prog w) A (do
        let joiner ← reSlice x.cps 0 0 0
        let items ← seqItems? (Value.ref D)
        let text ← if (items.getD #[]).isEmpty = true then pure joiner else call (.builtin "str.join") [joiner, .ref D]
        if false = true then do ret (← holding [text] do newTuple [text, ← mkInt n]) else ret text)
      (fun fin s' => match fin with | .done f => R (.ok f) s' | .again c' => c'.quiet = true ∧ codeAny (model prog w) A' c' R s') (fun e s' => R (.error e) s') s := by
  have e0 : x.cps.extract 0 0 = #[] := by simp
  refine wpAny_bind (wpAny_mkStr ?_ (by show (x.cps.extract 0 0).size ≤ _; rw [e0]; exact Nat.zero_le _))
  rw [e0]
  refine wpAny_bind (wpAny_bind (wpAny_load hD (wpAny_pure ?_)))
  by_cases hem : its.isEmpty = true
  · have : ((some its).getD #[]).isEmpty = true := hem
    rw [if_pos this]
    have hnil : T = [] := by
      have h1 := strsAre_len hI
      have h2 : its.size = 0 := by simpa using hem
      rw [Array.length_toList, h2] at h1
      exact List.eq_nil_of_length_eq_zero h1.symm
    subst hnil
    exact wpAny_pure (hR _ _)
  · have : ¬ ((some its).getD #[]).isEmpty = true := hem
    rw [if_neg this]
    refine wpAny_bind (join_listW (D := D) (items := its) ⟨_, hD, rfl, _, rfl⟩ hI (by decide) hT fun t' k' => ?_)
    exact wpAny_pure (hR _ _)
theorem sub_loop0 {next : Nat → Option (Nat × Nat)} {x repl : PySem.Str} {t u : Tok} {D : Addr} (hf : Finds code x.cps next) (hx : x.cps.size ≤ 1048576) (hpD : p ≠ D) (hcD : c ≠ D) (T : List PySem.Str) (hT : (T.map (·.length)).sum + T.length ≤ 1048576) :
    ∀ (f d : Nat) (n : Int) (its : Array Value) (k : Nat) (ys : List PySem.Str) (A : Around) (s : Shared) (R : Result → Shared → Prop), x.cps.size + 1 ≤ d + f → d ≤ x.cps.size → Pat s.heap p c 0 code → s.heap.get? D = some { cls := .type "list", data := .seq its k } → StrsAre its.toList ys →
      T = ys ++ (pieces next x.cps repl.cps f d).map PySem.Str.mk →
      (∀ h' tk t', Heap.SameBut D s.heap h' → R (.ok (.ret (.str (Txt.join ⟨#[]⟩ T) t'))) { s with heap := h', toks := tk }) →
      codeAny (model prog w) A (.builtin "re.Pattern.sub.loop" ⟨[.ref p, .str x t, .str repl u, rawInt 0, rawInt 0, rawInt n, rawInt d, rawInt d, .bool false, .ref D, .bool false], []⟩) R s
  | 0, d, n, its, k, ys, A, s, R, hfd, hd, P, hD, hI, hTe, hR => by omega
  | f + 1, d, n, its, k, ys, A, s, R, hfd, hd, P, hD, hI, hTe, hR => by
    have hit : its.size ≤ 1048576 := by
      have h1 := strsAre_len hI
      rw [Array.length_toList] at h1
      have h2 : ys.length ≤ T.length := by rw [hTe, List.length_append]; omega
      omega
    have hsl : ∀ a b, (PySem.Str.mk (x.cps.extract a b)).length ≤ sizeLine := fun a b => by
      show (x.cps.extract a b).size ≤ sizeLine
      rw [Array.size_extract, sizeLine_eq]; omega
    refine codeAny_builtin entry_subloop ?_
    refine wpAny_bind (wp_whole0 P ?_)
    refine wpAny_bind (wpAny_pure ?_)
    refine wpAny_bind ?_
    rw [if_neg (by simp : ¬ ((0 : Int) != 0 && decide (n ≥ 0)) = true)]
    have hdd : ((d : Int)).toNat = d := Int.toNat_natCast d
    rw [hdd]
    refine wp_next hf hd hx (fun hn => ?_) (fun b e m hn hdb hbe hex hmb hme => ?_)
    · refine (?_ : wpAny _ _ (have jp := fun (_ : Unit) => (do
        let joiner ← reSlice x.cps 0 0 0
        let items ← seqItems? (Value.ref D)
        let text ← if (items.getD #[]).isEmpty = true then pure joiner else call (.builtin "str.join") [joiner, .ref D]
        if false = true then do ret (← holding [text] do newTuple [text, ← mkInt n]) else ret text)
        if d < x.cps.size then (do
          let v ← reSlice x.cps 0 d x.cps.size
          let r ← updateSeq D fun y => y.push v
          jp r)
        else jp ()) _ _ s)
      unfold pieces at hTe
      rw [hn] at hTe
      dsimp only at hTe ⊢
      by_cases hds : d < x.cps.size
      · rw [if_pos hds] at hTe ⊢
        refine wpAny_bind (wpAny_mkStr (wpAny_bind (wp_push hD (fun h' hs' hD' => sub_tail0 hT hD' (hTe ▸ strsAre_push hI) fun tk t' => hR _ _ _ hs') hit)) (hsl _ _))
      · rw [if_neg hds] at hTe ⊢
        refine sub_tail0 hT hD ?_ fun tk t' => hR _ _ _ (.refl ..)
        rw [hTe, List.map_nil, List.append_nil]; exact hI
    · refine (?_ : wpAny _ _ (have jp := fun (_ : Unit) => (do
        let r ← updateSeq D fun y => y.push (.str repl u)
        again (Code.builtin "re.Pattern.sub.loop" { pos := [Value.ref p, Value.str x t, Value.str repl u, rawInt 0, rawInt 0, rawInt (n + 1), rawInt ↑m.handed, rawInt ↑m.handed, Value.bool (m.handed == m.start), Value.ref D, Value.bool false] }))
        if d < m.start then (do
          let v ← reSlice x.cps 0 d m.start
          let r ← updateSeq D fun y => y.push v
          jp r)
        else jp ()) _ _ s)
      unfold pieces at hTe
      rw [hn] at hTe
      dsimp only at hTe ⊢
      rw [hmb, hme, show (e == b) = false by simp; omega]
      by_cases hds : d < b
      · rw [if_pos hds] at hTe ⊢
        have hyl : ys.length + 2 ≤ T.length := by rw [hTe]; simp
        have hil : its.size = ys.length := by have h1 := strsAre_len hI; rwa [Array.length_toList] at h1
        refine wpAny_bind (wpAny_mkStr (wpAny_bind (wp_push hD (fun h' hs' hD' => ?_) hit)) (hsl _ _))
        refine wpAny_bind (wp_push hD' (fun h₂ hs₂ hD₂ => wpAny_pure ⟨quiet_subloop _, ?_⟩) (by rw [Array.size_push]; omega))
        refine sub_loop0 hf hx hpD hcD T hT f e (n + 1) _ _ (ys ++ [⟨x.cps.extract d b⟩] ++ [repl]) _ _ _ (by omega) hex (P.sameBut (hs'.trans hs₂) hpD hcD) hD₂ (strsAre_push (strsAre_push hI)) ?_ fun h₃ tk t' hs₃ => hR _ _ _ ((hs'.trans hs₂).trans hs₃)
        rw [hTe]; simp
      · rw [if_neg hds] at hTe ⊢
        refine wpAny_bind (wp_push hD (fun h' hs' hD' => wpAny_pure ⟨quiet_subloop _, ?_⟩) hit)
        refine sub_loop0 hf hx hpD hcD T hT f e (n + 1) _ _ (ys ++ [repl]) _ _ _ (by omega) hex (P.sameBut hs' hpD hcD) hD' (strsAre_push hI) ?_ fun h₂ tk t' hs₂ => hR _ _ _ (hs'.trans hs₂)
        rw [hTe]; simp

theorem lookup_str_call : typeLookup (.type "str") "__call__" = pure none := by rw [typeLookup_type, builtinLookup_eq_fast]; kernel_rfl
theorem named3 (a b : Value) : reNamed "re.Pattern.sub" "sub" ["repl", "string", "count"] 2 [a, b] [] = pure [some a, some b, none] := by rfl

theorem meets_sub0 {next : Nat → Option (Nat × Nat)} {x repl : PySem.Str} {t u : Tok} (hf : Finds code x.cps next) (hx : x.cps.size ≤ 1048576) (hrep : repl.cps.contains 92 = false) 
    (T : List PySem.Str) (hT : (T.map (·.length)).sum + T.length ≤ 1048576) (hTe : T = (pieces next x.cps repl.cps (x.cps.size + 1) 0).map PySem.Str.mk) :
    Meets (Builtin.«re.Pattern.sub» ⟨[.ref p, .str repl u, .str x t], []⟩) (fun _ R s => Pat s.heap p c 0 code ∧ ∀ h' o tk t', Heap.SameBut s.heap.objs.size (s.heap.push o) h' → R (.ok (.ret (.str (Txt.join ⟨#[]⟩ T) t'))) { s with heap := h', toks := tk }) := by
  intro prog w A R s ⟨P, hR⟩
  show wpAny _ _ (reNamed "re.Pattern.sub" "sub" ["repl", "string", "count"] 2 [.str repl u, .str x t] [] >>= _) _ _ s
  rw [named3]
  refine wpAny_bind (wpAny_pure ?_)
  refine wpAny_bind (wpAny_pure ?_)
  refine wpAny_bind (wpAny_bind (wpAny_pure (wpAny_of_eq lookup_str_call ?_)))
  refine wpAny_bind (wpAny_pure ?_)
  refine wpAny_bind (wpAny_pure ?_)
  rw [hrep]
  refine wpAny_bind (wpAny_pure ?_)
  refine wpAny_bind (wpAny_holding (wp_whole0 P ?_))
  refine wpAny_bind (wpAny_newList ?_)
  refine wpAny_pure ⟨quiet_subloop _, ?_⟩
  obtain ⟨cl, d, a0, a1, a3, a4, sl, cl', d', cs, n, sl', h1, h2, h3⟩ := id P
  refine sub_loop0 (x := x) (repl := repl) hf hx (Nat.ne_of_lt (Heap.lt_size h1)) (Nat.ne_of_lt (Heap.lt_size h2)) T hT (x.cps.size + 1) 0 0 _ _ [] _ _ _ (by omega) (Nat.zero_le _) (P.keeps fun _ _ e => Heap.get?_push_of_some _ e) (Heap.get?_push_size _ rfl) .nil (by rw [hTe]; rfl) ?_
  intro h' tk t' hs
  exact hR h' _ tk t' hs

theorem call_sub0 {next : Nat → Option (Nat × Nat)} {x repl : PySem.Str} {t u : Tok} {Q : Value → Shared → Prop} (hf : Finds code x.cps next) (hx : x.cps.size ≤ 1048576) (hrep : repl.cps.contains 92 = false) 
    (T : List PySem.Str) (hT : (T.map (·.length)).sum + T.length ≤ 1048576) (hTe : T = (pieces next x.cps repl.cps (x.cps.size + 1) 0).map PySem.Str.mk) (P : Pat s.heap p c 0 code) (hcl : s.TypeIs (.ref p) "re.Pattern")
    (h : ∀ h' o tk t', Heap.SameBut s.heap.objs.size (s.heap.push o) h' → Q (.str (Txt.join ⟨#[]⟩ T) t') { s with heap := h', toks := tk }) :
    wpAny (model prog w) A (call (.builtin "re.Pattern.sub") [.ref p, .str repl u, .str x t]) Q E s :=
  call_meets slot_sub hcl entry_sub (args_sub _ _ _) (meets_sub0 hf hx hrep T hT hTe) ⟨P, h⟩
end
end Mine
end

section
open PySem PySem.W PyProof.Rows
namespace Mine
open PySem.Builtin.Re PySem.Builtin

theorem slot_bjoin : Slot "bytes" "join" "bytes.join" :=
  .of (owner := "bytes") (n := "join") (by rw [typeLookup_type, builtinLookup_eq_fast]; kernel_rfl) (by decide +kernel) (by decide +kernel) (by decide +kernel)
    (by first | exact .inl (by decide +kernel) | exact .inr (by decide +kernel)) (by rw [isSubtype_type]; kernel_rfl)
theorem entry_bjoin : entryFor table "bytes.join" = some Builtin.«bytes.join» := entryFor_of_tree (by kernel_rfl)
theorem args_bjoin (a b : Value) : argsOk "bytes.join" ⟨[a, b], []⟩ := by
  unfold argsOk; kernel_rfl

inductive BytesAre : List Value → List (Array UInt8) → Prop
  | nil : BytesAre [] []
  | cons (y : Array UInt8) (t : Tok) {vs ys} : BytesAre vs ys → BytesAre (.bytes y t :: vs) (y :: ys)
theorem BytesAre.snoc {y : Array UInt8} {t : Tok} : ∀ {vs ys}, BytesAre vs ys → BytesAre (vs ++ [.bytes y t]) (ys ++ [y])
  | _, _, .nil => .cons y t .nil
  | _, _, .cons z u r => .cons z u (BytesAre.snoc r)
theorem BytesAre.len {vs ys} (h : BytesAre vs ys) : vs.length = ys.length := by
  induction h with
  | nil => rfl
  | cons y t _ ih => simp [ih]
theorem BytesAre.at : ∀ {vs ys}, BytesAre vs ys → ∀ i, i < vs.length → ∃ y t, vs[i]? = some (.bytes y t) ∧ ys[i]? = some y
  | _, _, .nil, i, h => absurd h (Nat.not_lt_zero _)
  | _, _, .cons y t r, 0, _ => ⟨y, t, rfl, rfl⟩
  | _, _, .cons y t r, i + 1, h => by
    obtain ⟨y', t', h1, h2⟩ := BytesAre.at r i (by simpa using h)
    exact ⟨y', t', by simpa using h1, by simpa using h2⟩
theorem BytesAre.noHeap : ∀ {vs ys}, BytesAre vs ys → ∀ v ∈ vs, v.onHeap = false
  | _, _, .cons y t r, v, h => by
    rcases List.mem_cons.mp h with rfl | h
    · rfl
    · exact BytesAre.noHeap r v h

section
variable {b : Array UInt8} {t : Tok}
theorem takeQuiet_eq {id : String} : Bytes.takeBufferQuiet? id (.bytes b t) 0 = pure (some (b, none)) := by
  have h1 : Bytes.takeBuffer? id (.bytes b t) 0 = pure (some (b, none)) := by
    unfold Bytes.takeBuffer?
    rw [KBy.special_eq KBy.look_buffer, KBy.own_buffer]
    have e : Bytes.buffer? id (.bytes b t) (full := (0 : Int) == Bytes.fullReadOnly) = pure (some b) := by
      unfold Bytes.buffer?
      rw [KBy.special_eq KBy.look_buffer, KBy.own_buffer, KBy.own_release]
      kernel_rfl
    show (do return (← Bytes.buffer? id (.bytes b t) (full := (0 : Int) == Bytes.fullReadOnly)).map (·, none) : Sem (Option (Array UInt8 × Option Value))) = _
    rw [e]; rfl
  unfold Bytes.takeBufferQuiet?
  rw [h1]
  rfl
end

section
variable {prog : Program} {w : World} {A : Around} {E : Value → Shared → Prop} {s : Shared}
theorem wp_letGo {Q : Unit → Shared → Prop} (h : Q () s) : ∀ (l k : List Value), wpAny (model prog w) A (letGo l k) Q E s
  | [], k => wpAny_pure h
  | v :: l, k => by
    show wpAny _ _ (holding (l ++ k) point >>= fun _ => letGo l k) _ _ _
    exact wpAny_bind (wpAny_holding (wpAny_point (wp_letGo h l k)))
theorem wp_joinLetGo {Q : Unit → Shared → Prop} (h : Q () s) : ∀ (l : List (Value × Option Value)) (k : List Value), (∀ p ∈ l, p.2 = none) → wpAny (model prog w) A (Bytes.joinLetGo l k) Q E s
  | [], k, _ => wpAny_pure h
  | (x, w') :: l, k, hn => by
    have : w' = none := hn (x, w') List.mem_cons_self
    subst this
    show wpAny _ _ (letGo [x] _ >>= fun _ => Bytes.joinLetGo l k) _ _ _
    exact wpAny_bind (wp_letGo (wp_joinLetGo h l k fun p hp => hn p (List.mem_cons_of_mem _ hp)) _ _)

theorem meets_bjoin {D : Addr} {its : Array Value} {k : Nat} {T : List (Array UInt8)} (hI : BytesAre its.toList T) (hsz : (Bytes.joined #[] T).size ≤ 1048576) (hsm : T.foldl (· + ·.size) 0 ≤ 1048576) :
    Meets (Builtin.«bytes.join» ⟨[.bytes #[] t, .ref D], []⟩) (fun _ R s => s.heap.get? D = some { cls := .type "list", data := .seq its k } ∧ ∀ tk t', R (.ok (.ret (.bytes (Bytes.joined #[] T) t'))) { s with toks := tk }) := by
  refine .of_wp fun prog w A R s ⟨hD, hR⟩ => ?_
  have hL : s.heap.IsList D its := ⟨_, hD, rfl, _, rfl⟩
  refine wpAny_bind (wpAny_pure ?_)
  refine wpAny_bind (wpAny_bind (wpAny_typeOf hL.typeIs (wpAny_pure ?_)))
  refine wpAny_bind (wpAny_bind (wpAny_load hD (wpAny_pure ?_)))
  have hone : ∀ y, T = [y] → Bytes.joined #[] T = y := by
    rintro y rfl
    simp [Bytes.joined]
  have hlen := hI.len
  have hhe := hI.noHeap
  have one : ∀ x, its = #[x] → ∃ y t', x = .bytes y t' ∧ T = [y] := by
    rintro x rfl
    obtain ⟨y, t', h1, h2⟩ := hI.at 0 (by simp)
    refine ⟨y, t', by simpa using h1, ?_⟩
    cases T with
    | nil => cases h2
    | cons a r =>
      cases r with
      | nil => simpa using h2
      | cons _ _ => simp at hlen
  rcases its with ⟨_ | ⟨x, _ | ⟨x2, r⟩⟩⟩
  case cons.nil =>
    obtain ⟨y, t', rfl, hT⟩ := one x rfl
    refine wpAny_bind (wpAny_pure ?_)
    refine wpAny_bind (wpAny_rule (wpAny_pure ⟨_, rfl, ?_⟩))
    have := hR s.toks t'
    rw [hone y hT] at this
    exact this
  all_goals (clear hone one; refine wpAny_bind ?_)
  case' nil => generalize (⟨[]⟩ : Array Value) = its at hI hlen hhe hD hL ⊢
  case' cons.cons => generalize (⟨x :: x2 :: r⟩ : Array Value) = its at hI hlen hhe hD hL ⊢
  all_goals
    rw [Std.Legacy.Range.forIn_eq_forIn_range']
    refine wpAny_forIn_list _ (fun rest st s' => s' = s ∧ ∃ i, i ≤ its.size ∧ rest = List.range' i (its.size - i) ∧ st = ((T.take i).toArray, (its.toList.take i).map fun v => (v, (none : Option Value)))) _ ?turn ?fin _ _ ?hini
    case hini => exact ⟨rfl, 0, Nat.zero_le _, by simp [Std.Legacy.Range.size], by simp⟩
    case fin =>
      rintro st s' ⟨rfl, i, hi, hr, rfl⟩
      have hie : i = its.size := by
        have := congrArg List.length hr
        simp at this; omega
      subst hie
      have e1 : T.take its.size = T := by rw [← Array.length_toList, hlen, List.take_length]
      have e2 : its.toList.take its.size = its.toList := by rw [← Array.length_toList, List.take_length]
      rw [e1, e2]
      dsimp only
      refine wpAny_bind (wpAny_pure ?_)
      have htl : Bytes.tooLong (Array.foldl (fun x1 x2 => x1 + x2.size) ((#[] : Array UInt8).size * (T.toArray.size - 1)) T.toArray) = false := by
        refine KBy.tooLong_not ?_
        simpa using Nat.le_trans hsm (by decide)
      rw [htl]
      refine wpAny_bind (wpAny_mkBytes ?_ (Nat.le_trans hsz (by rw [sizeLine_eq]; decide)))
      refine wpAny_bind (wpAny_holding (wpAny_point ?_))
      refine wpAny_bind (wp_joinLetGo ?_ _ _ ?_)
      · exact wpAny_pure ⟨_, rfl, hR _ _⟩
      · intro p hp
        obtain ⟨v, _, rfl⟩ := List.mem_map.mp hp
        rfl
    case turn =>
      rintro i rest st s' ⟨rfl, j, hj, hr, rfl⟩
      have hjs : j < its.size := by
        have := congrArg List.length hr
        simp at this; omega
      obtain ⟨m, hm⟩ : ∃ m, its.size - j = m + 1 := ⟨its.size - j - 1, by omega⟩
      rw [hm, List.range'_succ] at hr
      obtain ⟨rfl, rfl⟩ := List.cons.inj hr
      obtain ⟨y, t', h1, h2⟩ := hI.at i (by simpa using hjs)
      refine wpAny_bind (wpAny_bind (wpAny_load hD (wpAny_pure ?_)))
      have hg : its.getD i .none = .bytes y t' := by
        rw [Array.getElem?_toList] at h1
        rw [Array.getD_eq_getD_getElem?, h1]; rfl
      dsimp only
      rw [hg]
      have hany : ((Bytes.Kind.bytes == Bytes.Kind.bytearray) || ((its.toList.take i).map fun v => (v, (none : Option Value))).any fun x => x.1.onHeap) = false := by
        rw [Bool.or_eq_false_iff]
        refine ⟨rfl, ?_⟩
        rw [List.any_eq_false]
        intro p hp
        obtain ⟨v, hv, rfl⟩ := List.mem_map.mp hp
        rw [hhe v (List.mem_of_mem_take hv)]
        decide
      rw [hany]
      refine wpAny_bind (wpAny_holding (wpAny_of_eq takeQuiet_eq ?_))
      refine wpAny_bind (wpAny_bind (wpAny_load hD (wpAny_pure ?_)))
      have hne : (its.size != its.size) = false := by simp
      dsimp only
      rw [hne]
      refine wpAny_pure ⟨rfl, i + 1, hjs, ?_, ?_⟩
      · congr 1; omega
      · rw [List.take_add_one, List.take_add_one, h1, h2]
        simp
end
end Mine
end

section
open PySem PySem.W PyProof.Rows
namespace Mine
open PySem.Builtin.Re

theorem slice1 (b : Array UInt8) (i j : Nat) : ((b.map (·.toNat)).extract i j).map (·.toUInt8) = b.extract i j := by
  rw [← Array.map_extract, Array.map_map]
  have e : ((fun x : Nat => x.toUInt8) ∘ fun x : UInt8 => x.toNat) = id := by
    funext x; simp
  rw [e, Array.map_id]

section
variable {prog : Program} {w : World} {A : Around} {E : Value → Shared → Prop} {s : Shared} {p c : Addr} {code : Array Nat}
theorem wp_whole1 {x : Array UInt8} {t : Tok} {Q : ReTarget → Shared → Prop} (P : Pat s.heap p c 1 code)
    (h : Q { pattern := .ref p, string := .bytes x t, code := code, text := x.map (·.toNat), kind := 1, groups := 0, pos := 0, lim := (x.map (·.toNat)).size } s) : wpAny (model prog w) A (reWholeTarget (.ref p) (.bytes x t)) Q E s := by
  obtain ⟨cl, d, a0, a1, a3, a4, sl, cl', d', cs, n, sl', h1, h2, h3⟩ := P
  refine wpAny_bind (wpAny_bind (wpAny_load h1 (wpAny_pure ?_)))
  refine wpAny_bind (wpAny_bind (wpAny_bind (wpAny_pure (wpAny_pure ?_))))
  refine wpAny_bind (wpAny_of_eq KBy.quiet_eq (wpAny_pure ?_))
  refine wpAny_bind (wpAny_bind (wpAny_of_eq KBy.isInstance_eq (wpAny_pure ?_)))
  refine wpAny_bind (wpAny_bind (wpAny_bind (wpAny_load h2 (wpAny_pure (wpAny_pure ?_)))))
  refine wpAny_pure ?_
  rw [show (((some cs).getD #[]).map reRawOf).map (·.toNat) = code from h3]
  exact h
theorem sub_tail1 {x : Array UInt8} {T : List (Array UInt8)} {D : Addr} {its : Array Value} {k : Nat} {A' : Around} {R : Result → Shared → Prop} {n : Int} (hsz : (Builtin.Bytes.joined #[] T).size ≤ 1048576) (hsm : T.foldl (· + ·.size) 0 ≤ 1048576) (hTl : T.length ≤ 1048576)
    (hD : s.heap.get? D = some { cls := .type "list", data := .seq its k }) (hI : BytesAre its.toList T)
    (hR : ∀ tk t', R (.ok (.ret (.bytes (Builtin.Bytes.joined #[] T) t'))) { s with toks := tk }) :
    wpAny (model prog w) A (do
        let joiner ← reSlice (x.map (·.toNat)) 1 0 0
        let items ← seqItems? (Value.ref D)
        let text ← if (items.getD #[]).isEmpty = true then pure joiner else call (.builtin "bytes.join") [joiner, .ref D]
        if false = true then do ret (← holding [text] do newTuple [text, ← mkInt n]) else ret text)
      (fun fin s' => match fin with | .done f => R (.ok f) s' | .again c' => c'.quiet = true ∧ codeAny (model prog w) A' c' R s') (fun e s' => R (.error e) s') s := by
  have e0 : ((x.map (·.toNat)).extract 0 0).map (·.toUInt8) = #[] := by rw [slice1]; simp
  refine wpAny_bind (wpAny_mkBytes ?_ (by rw [e0]; exact Nat.zero_le _))
  rw [e0]
  refine wpAny_bind (wpAny_bind (wpAny_load hD (wpAny_pure ?_)))
  by_cases hem : its.isEmpty = true
  · have : ((some its).getD #[]).isEmpty = true := hem
    rw [if_pos this]
    have hnil : T = [] := by
      have h1 := hI.len
      have h2 : its.size = 0 := by simpa using hem
      rw [Array.length_toList, h2] at h1
      exact List.eq_nil_of_length_eq_zero h1.symm
    subst hnil
    exact wpAny_pure (hR _ _)
  · have : ¬ ((some its).getD #[]).isEmpty = true := hem
    rw [if_neg this]
    refine wpAny_bind (call_meets slot_bjoin (typeIs_bytes _ _ _) entry_bjoin (args_bjoin _ _) (meets_bjoin hI hsz hsm) ⟨hD, fun tk t' => ?_⟩)
    exact wpAny_pure (hR _ _)
theorem sub_loop1 {next : Nat → Option (Nat × Nat)} {x repl : Array UInt8} {t u : Tok} {D : Addr} (hf : Finds code (x.map (·.toNat)) next) (hx : x.size ≤ 1048576) (hpD : p ≠ D) (hcD : c ≠ D) (T : List (Array UInt8)) (hsz : (Builtin.Bytes.joined #[] T).size ≤ 1048576) (hsm : T.foldl (· + ·.size) 0 ≤ 1048576) (hTl : T.length ≤ 1048576) :
    ∀ (f d : Nat) (n : Int) (its : Array Value) (k : Nat) (ys : List (Array UInt8)) (A : Around) (s : Shared) (R : Result → Shared → Prop), x.size + 1 ≤ d + f → d ≤ x.size → Pat s.heap p c 1 code → s.heap.get? D = some { cls := .type "list", data := .seq its k } → BytesAre its.toList ys →
      T = ys ++ pieces next x repl f d →
      (∀ h' tk t', Heap.SameBut D s.heap h' → R (.ok (.ret (.bytes (Builtin.Bytes.joined #[] T) t'))) { s with heap := h', toks := tk }) →
      codeAny (model prog w) A (.builtin "re.Pattern.sub.loop" ⟨[.ref p, .bytes x t, .bytes repl u, rawInt 0, rawInt 0, rawInt n, rawInt d, rawInt d, .bool false, .ref D, .bool false], []⟩) R s
  | 0, d, n, its, k, ys, A, s, R, hfd, hd, P, hD, hI, hTe, hR => by omega
  | f + 1, d, n, its, k, ys, A, s, R, hfd, hd, P, hD, hI, hTe, hR => by
    have hit : its.size ≤ 1048576 := by
      have h1 := hI.len
      rw [Array.length_toList] at h1
      have h2 : ys.length ≤ T.length := by rw [hTe, List.length_append]; omega
      omega
    have hsl : ∀ a b, (((x.map (·.toNat)).extract a b).map (·.toUInt8)).size ≤ sizeLine := fun a b => by
      rw [slice1, Array.size_extract, sizeLine_eq]; omega
    have hxs : (x.map (·.toNat)).size = x.size := by simp
    refine codeAny_builtin entry_subloop ?_
    refine wpAny_bind (wp_whole1 P ?_)
    refine wpAny_bind (wpAny_bind (wpAny_pure (wpAny_bind (wpAny_of_eq KBy.isInstance_eq (wpAny_pure ?_)))))
    refine wpAny_bind ?_
    rw [if_neg (by simp : ¬ ((0 : Int) != 0 && decide (n ≥ 0)) = true)]
    have hdd : ((d : Int)).toNat = d := Int.toNat_natCast d
    rw [hdd]
    refine wp_next hf (by rw [hxs]; exact hd) (by rw [hxs]; exact hx) (fun hn => ?_) (fun b e m hn hdb hbe hex hmb hme => ?_)
    · refine (?_ : wpAny _ _ (have jp := fun (_ : Unit) => (do
        let joiner ← reSlice (x.map (·.toNat)) 1 0 0
        let items ← seqItems? (Value.ref D)
        let text ← if (items.getD #[]).isEmpty = true then pure joiner else call (.builtin "bytes.join") [joiner, .ref D]
        if false = true then do ret (← holding [text] do newTuple [text, ← mkInt n]) else ret text)
        if d < (x.map (·.toNat)).size then (do
          let v ← reSlice (x.map (·.toNat)) 1 d (x.map (·.toNat)).size
          let r ← updateSeq D fun y => y.push v
          jp r)
        else jp ()) _ _ s)
      unfold pieces at hTe
      rw [hn] at hTe
      dsimp only at hTe ⊢
      rw [hxs] at *
      by_cases hds : d < x.size
      · rw [if_pos hds] at hTe ⊢
        refine wpAny_bind (wpAny_mkBytes (wpAny_bind (wp_push hD (fun h' hs' hD' => sub_tail1 hsz hsm hTl hD' (by rw [Array.toList_push, slice1, hxs]; exact hTe ▸ hI.snoc) fun tk t' => hR _ _ _ hs') hit)) (hsl _ _))
      · rw [if_neg hds] at hTe ⊢
        refine sub_tail1 hsz hsm hTl hD ?_ fun tk t' => hR _ _ _ (.refl ..)
        rw [hTe, List.append_nil]; exact hI
    · refine (?_ : wpAny _ _ (have jp := fun (_ : Unit) => (do
        let r ← updateSeq D fun y => y.push (.bytes repl u)
        again (Code.builtin "re.Pattern.sub.loop" { pos := [Value.ref p, Value.bytes x t, Value.bytes repl u, rawInt 0, rawInt 0, rawInt (n + 1), rawInt ↑m.handed, rawInt ↑m.handed, Value.bool (m.handed == m.start), Value.ref D, Value.bool false] }))
        if d < m.start then (do
          let v ← reSlice (x.map (·.toNat)) 1 d m.start
          let r ← updateSeq D fun y => y.push v
          jp r)
        else jp ()) _ _ s)
      unfold pieces at hTe
      rw [hn] at hTe
      dsimp only at hTe ⊢
      rw [hmb, hme, show (e == b) = false by simp; omega]
      by_cases hds : d < b
      · rw [if_pos hds] at hTe ⊢
        have hyl : ys.length + 2 ≤ T.length := by rw [hTe]; simp
        have hil : its.size = ys.length := by have h1 := hI.len; rwa [Array.length_toList] at h1
        refine wpAny_bind (wpAny_mkBytes (wpAny_bind (wp_push hD (fun h' hs' hD' => ?_) hit)) (hsl _ _))
        refine wpAny_bind (wp_push hD' (fun h₂ hs₂ hD₂ => wpAny_pure ⟨quiet_subloop _, ?_⟩) (by rw [Array.size_push]; omega))
        refine sub_loop1 hf hx hpD hcD T hsz hsm hTl f e (n + 1) _ _ (ys ++ [x.extract d b] ++ [repl]) _ _ _ (by omega) (by rw [← hxs]; exact hex) (P.sameBut (hs'.trans hs₂) hpD hcD) hD₂ (by rw [Array.toList_push, Array.toList_push, slice1]; exact hI.snoc.snoc) ?_ fun h₃ tk t' hs₃ => hR _ _ _ ((hs'.trans hs₂).trans hs₃)
        rw [hTe]; simp
      · rw [if_neg hds] at hTe ⊢
        refine wpAny_bind (wp_push hD (fun h' hs' hD' => wpAny_pure ⟨quiet_subloop _, ?_⟩) hit)
        refine sub_loop1 hf hx hpD hcD T hsz hsm hTl f e (n + 1) _ _ (ys ++ [repl]) _ _ _ (by omega) (by rw [← hxs]; exact hex) (P.sameBut hs' hpD hcD) hD' (by rw [Array.toList_push]; exact hI.snoc) ?_ fun h₂ tk t' hs₂ => hR _ _ _ (hs'.trans hs₂)
        rw [hTe]; simp


theorem lookup_bytes_call : typeLookup (.type "bytes") "__call__" = pure none := by rw [typeLookup_type, builtinLookup_eq_fast]; kernel_rfl

theorem meets_sub1 {next : Nat → Option (Nat × Nat)} {x repl : Array UInt8} {t u : Tok} (hf : Finds code (x.map (·.toNat)) next) (hx : x.size ≤ 1048576) (hrep : repl.contains 92 = false)
    (T : List (Array UInt8)) (hsz : (Builtin.Bytes.joined #[] T).size ≤ 1048576) (hsm : T.foldl (· + ·.size) 0 ≤ 1048576) (hTl : T.length ≤ 1048576) (hTe : T = pieces next x repl (x.size + 1) 0) :
    Meets (Builtin.«re.Pattern.sub» ⟨[.ref p, .bytes repl u, .bytes x t], []⟩) (fun _ R s => Pat s.heap p c 1 code ∧ ∀ h' o tk t', Heap.SameBut s.heap.objs.size (s.heap.push o) h' → R (.ok (.ret (.bytes (Builtin.Bytes.joined #[] T) t'))) { s with heap := h', toks := tk }) := by
  intro prog w A R s ⟨P, hR⟩
  show wpAny _ _ (reNamed "re.Pattern.sub" "sub" ["repl", "string", "count"] 2 [.bytes repl u, .bytes x t] [] >>= _) _ _ s
  rw [named3]
  refine wpAny_bind (wpAny_pure ?_)
  refine wpAny_bind (wpAny_pure ?_)
  refine wpAny_bind (wpAny_bind (wpAny_pure (wpAny_of_eq lookup_bytes_call ?_)))
  refine wpAny_bind (wpAny_bind (wpAny_pure (wpAny_pure ?_)))
  refine wpAny_bind (wpAny_of_eq KBy.quiet_eq ?_)
  refine wpAny_bind (wpAny_pure ?_)
  rw [hrep]
  refine wpAny_bind (wpAny_pure ?_)
  refine wpAny_bind (wpAny_holding (wp_whole1 P ?_))
  refine wpAny_bind (wpAny_newList ?_)
  refine wpAny_pure ⟨quiet_subloop _, ?_⟩
  obtain ⟨cl, d, a0, a1, a3, a4, sl, cl', d', cs, n, sl', h1, h2, h3⟩ := id P
  refine sub_loop1 (x := x) (repl := repl) hf hx (Nat.ne_of_lt (Heap.lt_size h1)) (Nat.ne_of_lt (Heap.lt_size h2)) T hsz hsm hTl (x.size + 1) 0 0 _ _ [] _ _ _ (by omega) (Nat.zero_le _) (P.keeps fun _ _ e => Heap.get?_push_of_some _ e) (Heap.get?_push_size _ rfl) .nil (by rw [hTe]; rfl) ?_
  intro h' tk t' hs
  exact hR h' _ tk t' hs

theorem call_sub1 {next : Nat → Option (Nat × Nat)} {x repl : Array UInt8} {t u : Tok} {Q : Value → Shared → Prop} (hf : Finds code (x.map (·.toNat)) next) (hx : x.size ≤ 1048576) (hrep : repl.contains 92 = false)
    (T : List (Array UInt8)) (hsz : (Builtin.Bytes.joined #[] T).size ≤ 1048576) (hsm : T.foldl (· + ·.size) 0 ≤ 1048576) (hTl : T.length ≤ 1048576) (hTe : T = pieces next x repl (x.size + 1) 0) (P : Pat s.heap p c 1 code) (hcl : s.TypeIs (.ref p) "re.Pattern")
    (h : ∀ h' o tk t', Heap.SameBut s.heap.objs.size (s.heap.push o) h' → Q (.bytes (Builtin.Bytes.joined #[] T) t') { s with heap := h', toks := tk }) :
    wpAny (model prog w) A (call (.builtin "re.Pattern.sub") [.ref p, .bytes repl u, .bytes x t]) Q E s :=
  call_meets slot_sub hcl entry_sub (args_sub _ _ _) (meets_sub1 hf hx hrep T hsz hsm hTl hTe) ⟨P, h⟩
end
end Mine
end

section
open PySem PySem.W PyProof.Rows
namespace Mine

/-- ends as both signs -/
noncomputable def fix : List Nat → List Nat
  | [] => []
  | [13] => [13, 10]
  | 13 :: 10 :: r => 13 :: 10 :: fix r
  | 10 :: r => 13 :: 10 :: fix r
  | 13 :: c :: r => 13 :: 10 :: fix (c :: r)
  | c :: r => c :: fix r
/-- a point ahead of each row that begins with one -/
noncomputable def quo : Bool → List Nat → List Nat
  | _, [] => []
  | b, c :: r => if b = true ∧ c = 46 then 46 :: 46 :: quo false r else c :: quo (c == 10) r

noncomputable def flat {α : Type} (next : Nat → Option (Nat × Nat)) (X repl : Array α) (f d : Nat) : List α := ((pieces next X repl f d).map Array.toList).flatten

section
variable {α : Type} {next : Nat → Option (Nat × Nat)} {X repl : Array α} {f d : Nat}
theorem ext_cons {b : Nat} (h1 : d < b) (h2 : b ≤ X.size) (hd : d < X.size) : (X.extract d b).toList = X[d] :: (X.extract (d + 1) b).toList := by
  simp only [Array.toList_extract]
  rw [List.extract_eq_take_drop, List.extract_eq_take_drop, List.drop_eq_getElem_cons (by simpa using hd), show b - d = (b - (d + 1)) + 1 by omega, List.take_succ_cons]
  simp
theorem flat_skip (hd : d < X.size) (hn : next d = next (d + 1)) (hb : ∀ b e, next (d + 1) = some (b, e) → d < b ∧ b ≤ X.size) :
    flat next X repl (f + 1) d = X[d] :: flat next X repl (f + 1) (d + 1) := by
  unfold flat pieces
  rw [hn]
  cases hx : next (d + 1) with
  | none =>
    dsimp only
    rw [if_pos hd]
    have hl := ext_cons (X := X) hd (Nat.le_refl _) hd
    by_cases h : d + 1 < X.size
    · rw [if_pos h]; simp [-Array.toList_extract, hl]
    · rw [if_neg h]
      have : (X.extract (d + 1) X.size) = #[] := by simp; omega
      rw [this] at hl
      simp [-Array.toList_extract, hl]
  | some p =>
    obtain ⟨b, e⟩ := p
    obtain ⟨h1, h2⟩ := hb b e hx
    dsimp only
    rw [if_pos h1]
    have hl := ext_cons (X := X) h1 h2 hd
    by_cases h : d + 1 < b
    · rw [if_pos h]; simp [-Array.toList_extract, hl]
    · rw [if_neg h]
      have : (X.extract (d + 1) b) = #[] := by simp; omega
      rw [this] at hl
      simp [-Array.toList_extract, hl]
theorem flat_hit {e : Nat} (hn : next d = some (d, e)) : flat next X repl (f + 1) d = repl.toList ++ flat next X repl f e := by
  unfold flat
  rw [pieces, hn]
  simp
theorem flat_end (hd : X.size ≤ d) (hn : next d = none) : flat next X repl f d = [] := by
  unfold flat
  cases f with
  | zero => rfl
  | succ f => rw [pieces, hn]; simp [Nat.not_lt.mpr hd]
end

theorem nl_skip {text : Array Nat} {lim f s : Nat} (h1 : s < lim) (h2 : ¬ (text.getD s 0 = 10 ∨ text.getD s 0 = 13)) : nl text lim (f + 1) s = nl text lim f (s + 1) := by
  rw [nl, if_neg (by omega), if_neg h2]
theorem getD_at {X : Array Nat} {d : Nat} (hd : d < X.size) : X.getD d 0 = X[d] := by simp [Array.getD, hd]

theorem next3_skip {text : Array Nat} {d : Nat} (h1 : d < text.size) (h2 : ¬ (text.getD d 0 = 10 ∨ text.getD d 0 = 13)) : next3 text d = next3 text (d + 1) := by
  unfold next3
  rw [show text.size + 1 - d = (text.size + 1 - (d + 1)) + 1 by omega, nl_skip h1 h2]
theorem next3_hit {text : Array Nat} {d : Nat} (h1 : d < text.size) (h2 : text.getD d 0 = 10 ∨ text.getD d 0 = 13) :
    next3 text d = some (d, if text.getD d 0 = 13 ∧ d + 1 < text.size ∧ text.getD (d + 1) 0 = 10 then d + 2 else d + 1) := by
  unfold next3
  rw [show text.size + 1 - d = (text.size + 1 - (d + 1)) + 1 by omega, nl, if_neg (by omega), if_pos h2]
theorem next3_end {text : Array Nat} {d : Nat} (h1 : text.size ≤ d) : next3 text d = none := by
  unfold next3
  have : nl text text.size (text.size + 1 - d) d = none := by
    by_cases h : d = text.size
    · subst h; rw [show text.size + 1 - text.size = 0 + 1 by omega, nl, if_pos (Nat.le_refl _)]
    · rw [show text.size + 1 - d = 0 by omega, nl]
  rw [this]
theorem next3_some {text : Array Nat} {d b e : Nat} (h : next3 text d = some (b, e)) : d ≤ b ∧ b < text.size := by
  unfold next3 at h
  split at h
  · cases h
  · rename_i b' hb
    obtain ⟨h1, h2, h3⟩ := nl_spec hb
    simp only [Option.some.injEq, Prod.mk.injEq] at h
    omega

theorem fix_other {c : Nat} {r : List Nat} (h1 : c ≠ 10) (h2 : c ≠ 13) : fix (c :: r) = c :: fix r := by
  rw [fix] <;> simp_all
theorem fix_13 {c : Nat} {r : List Nat} (h1 : c ≠ 10) : fix (13 :: c :: r) = 13 :: 10 :: fix (c :: r) := by
  rw [fix]; simpa using h1

theorem flat3 (X : Array Nat) : ∀ (k d f : Nat), X.size - d ≤ k → k < f → flat (next3 X) X #[13, 10] f d = fix (X.toList.drop d)
  | k, d, 0, _, hf => absurd hf (Nat.not_lt_zero _)
  | k, d, f + 1, hk, hf => by
    by_cases hd : d < X.size
    · obtain ⟨k, rfl⟩ : ∃ k', k = k' + 1 := ⟨k - 1, by omega⟩
      have hdrop : X.toList.drop d = X[d] :: X.toList.drop (d + 1) := by
        rw [List.drop_eq_getElem_cons (by simpa using hd)]; simp
      have hg := getD_at hd
      by_cases hc : X.getD d 0 = 10 ∨ X.getD d 0 = 13
      · have hn := next3_hit hd hc
        by_cases h2 : X.getD d 0 = 13 ∧ d + 1 < X.size ∧ X.getD (d + 1) 0 = 10
        · rw [if_pos h2] at hn
          rw [flat_hit hn, flat3 X k (d + 2) f (by omega) (by omega), hdrop]
          have hg2 := getD_at h2.2.1
          have hdrop2 : X.toList.drop (d + 1) = X[d + 1] :: X.toList.drop (d + 2) := by
            rw [List.drop_eq_getElem_cons (by simpa using h2.2.1)]; simp
          rw [hdrop2, ← hg, ← hg2, h2.1, h2.2.2]
          rfl
        · rw [if_neg h2] at hn
          rw [flat_hit hn, flat3 X k (d + 1) f (by omega) (by omega), hdrop]
          rcases hc with hc | hc
          · rw [← hg, hc]; rfl
          · rw [← hg, hc]
            by_cases h3 : d + 1 < X.size
            · have hg2 := getD_at h3
              have hdrop2 : X.toList.drop (d + 1) = X[d + 1] :: X.toList.drop (d + 2) := by
                rw [List.drop_eq_getElem_cons (by simpa using h3)]; simp
              rw [hdrop2, fix_13 (by rw [← hg2]; exact fun e => h2 ⟨hc, h3, e⟩)]
              rfl
            · rw [List.drop_eq_nil_of_le (by simp; omega)]; rfl
      · rw [flat_skip hd (next3_skip hd hc) (fun b e h => by have := next3_some h; omega), flat3 X k (d + 1) (f + 1) (by omega) (by omega), hdrop]
        rw [hg] at hc
        rw [fix_other (fun e => hc (.inl e)) (fun e => hc (.inr e))]
    · rw [flat_end (by omega) (next3_end (by omega)), List.drop_eq_nil_of_le (by simp; omega)]; rfl

/-- place d begins a row -/
def bolAt (X : Array Nat) (d : Nat) : Bool := d == 0 || X.getD (d - 1) 0 == 10
theorem bolAt_iff {X : Array Nat} {d : Nat} : bolAt X d = true ↔ (d = 0 ∨ X.getD (d - 1) 0 = 10) := by unfold bolAt; simp

theorem next1_skip {text : Array Nat} {d : Nat} (h1 : d < text.size) (h2 : ¬ ((d = 0 ∨ text.getD (d - 1) 0 = 10) ∧ text.getD d 0 = 46)) : next1 text d = next1 text (d + 1) := by
  unfold next1
  rw [show text.size + 1 - d = (text.size + 1 - (d + 1)) + 1 by omega, bp, if_neg (by omega), if_neg h2]
theorem next1_hit {text : Array Nat} {d : Nat} (h1 : d < text.size) (h2 : (d = 0 ∨ text.getD (d - 1) 0 = 10) ∧ text.getD d 0 = 46) : next1 text d = some (d, d + 1) := by
  unfold next1
  rw [show text.size + 1 - d = (text.size + 1 - (d + 1)) + 1 by omega, bp, if_neg (by omega), if_pos h2]
theorem next1_end {text : Array Nat} {d : Nat} (h1 : text.size ≤ d) : next1 text d = none := by
  unfold next1
  have : bp text text.size (text.size + 1 - d) d = none := by
    by_cases h : d = text.size
    · subst h; rw [show text.size + 1 - text.size = 0 + 1 by omega, bp, if_pos (Nat.le_refl _)]
    · rw [show text.size + 1 - d = 0 by omega, bp]
  rw [this]
theorem next1_some {text : Array Nat} {d b e : Nat} (h : next1 text d = some (b, e)) : d ≤ b ∧ b < text.size := by
  unfold next1 at h
  split at h
  · cases h
  · rename_i b' hb
    obtain ⟨h1, h2, h3⟩ := bp_spec hb
    simp only [Option.some.injEq, Prod.mk.injEq] at h
    omega

theorem flat1 (X : Array Nat) : ∀ (k d f : Nat), X.size - d ≤ k → k < f → flat (next1 X) X #[46, 46] f d = quo (bolAt X d) (X.toList.drop d)
  | k, d, 0, _, hf => absurd hf (Nat.not_lt_zero _)
  | k, d, f + 1, hk, hf => by
    by_cases hd : d < X.size
    · obtain ⟨k, rfl⟩ : ∃ k', k = k' + 1 := ⟨k - 1, by omega⟩
      have hdrop : X.toList.drop d = X[d] :: X.toList.drop (d + 1) := by
        rw [List.drop_eq_getElem_cons (by simpa using hd)]; simp
      have hg := getD_at hd
      have hb1 : bolAt X (d + 1) = (X[d] == 10) := by
        unfold bolAt; rw [← hg]; simp
      by_cases hc : (d = 0 ∨ X.getD (d - 1) 0 = 10) ∧ X.getD d 0 = 46
      · rw [flat_hit (next1_hit hd hc), flat1 X k (d + 1) f (by omega) (by omega), hdrop, quo, if_pos ⟨bolAt_iff.mpr hc.1, by rw [← hg]; exact hc.2⟩, hb1, ← hg, hc.2]
        rfl
      · rw [flat_skip hd (next1_skip hd hc) (fun b e h => by have := next1_some h; omega), flat1 X k (d + 1) (f + 1) (by omega) (by omega), hdrop, quo, if_neg (fun h => hc ⟨bolAt_iff.mp h.1, by rw [hg]; exact h.2⟩), hb1]
    · rw [flat_end (by omega) (next1_end (by omega)), List.drop_eq_nil_of_le (by simp; omega), quo]

theorem pieces_map {α β : Type} (g : α → β) (next : Nat → Option (Nat × Nat)) (X repl : Array α) : ∀ f d, (pieces next X repl f d).map (·.map g) = pieces next (X.map g) (repl.map g) f d
  | 0, d => rfl
  | f + 1, d => by
    rw [pieces, pieces]
    cases next d with
    | none => 
      dsimp only
      rw [Array.size_map]
      split
      · simp
      · rfl
    | some p =>
      obtain ⟨b, e⟩ := p
      dsimp only
      rw [List.map_append, List.map_cons, pieces_map g next X repl f e]
      congr 1
      split
      · simp
      · rfl
theorem flat_map {α β : Type} (g : α → β) (next : Nat → Option (Nat × Nat)) (X repl : Array α) (f d : Nat) : (flat next X repl f d).map g = flat next (X.map g) (repl.map g) f d := by
  unfold flat
  rw [← pieces_map, List.map_flatten, List.map_map, List.map_map]
  congr 2
  funext a
  simp

theorem glued_flat (T : List PySem.Str) : (Txt.join ⟨#[]⟩ T).cps.toList = (T.map fun y => y.cps.toList).flatten := by
  have key : ∀ (l : List PySem.Str) (acc : Array Nat), (l.foldl (fun acc p => acc ++ (#[] : Array Nat) ++ p.cps) acc).toList = acc.toList ++ (l.map fun y => y.cps.toList).flatten := by
    intro l
    induction l with
    | nil => simp
    | cons y l ih => intro acc; rw [List.foldl_cons, ih]; simp
  cases T with
  | nil => rfl
  | cons y r => exact key r y.cps
theorem joined_flat (T : List (Array UInt8)) : (Builtin.Bytes.joined #[] T).toList = (T.map Array.toList).flatten := by
  have key : ∀ (l : List (Array UInt8)) (k : Nat) (acc : Array UInt8), ((l.zipIdx k).foldl (fun out (p : Array UInt8 × Nat) => (if p.2 > 0 then out ++ (#[] : Array UInt8) else out) ++ p.1) acc).toList = acc.toList ++ (l.map Array.toList).flatten := by
    intro l
    induction l with
    | nil => simp
    | cons y l ih => intro k acc; rw [List.zipIdx_cons, List.foldl_cons, ih]; split <;> simp
  exact key T 0 #[]

/-! the three rules -/
theorem str_ext {x : PySem.Str} {l : List Nat} (h : x.cps.toList = l) : x = ⟨l.toArray⟩ := by
  cases x; simp only at h; rw [← h]

theorem pieces_len {α : Type} (next : Nat → Option (Nat × Nat)) (X repl : Array α) : ∀ f d, (pieces next X repl f d).length ≤ 2 * f
  | 0, d => Nat.zero_le _
  | f + 1, d => by
    rw [pieces]
    cases next d with
    | none => dsimp only; split <;> simp <;> omega
    | some p =>
      obtain ⟨b, e⟩ := p
      have := pieces_len next X repl f e
      dsimp only
      rw [List.length_append, List.length_cons]
      split <;> simp <;> omega
end Mine
end

section
open PySem PySem.W PyProof.Rows
namespace Mine

theorem fix_len : ∀ x : List Nat, (fix x).length ≤ 2 * x.length := by
  intro x
  induction x using fix.induct <;> simp_all [fix] <;> omega
theorem quo_len : ∀ (x : List Nat) (b : Bool), (quo b x).length ≤ 2 * x.length
  | [], b => by simp [quo]
  | c :: r, b => by
    rw [quo]
    split
    · have := quo_len r false; simp; omega
    · have := quo_len r (c == 10); simp; omega

/-- text of a list of signs -/
abbrev T! (x : List Nat) : PySem.Str := ⟨x.toArray⟩
/-- bytes of a list of signs -/
abbrev B! (x : List Nat) : Array UInt8 := (x.map (·.toUInt8)).toArray

theorem sum_flat (L : List (Array Nat)) : ((L.map PySem.Str.mk).map (·.length)).sum = ((L.map Array.toList).flatten).length := by
  induction L with
  | nil => rfl
  | cons a L ih => 
    simp only [List.map_cons, List.sum_cons, List.flatten_cons, List.length_append, ih]
    rfl

section
variable {prog : Program} {w : World} {A : Around} {E : Value → Shared → Prop} {s : Shared} {p c : Addr}

theorem call_subT {next : Nat → Option (Nat × Nat)} {code : Array Nat} {x y rl : List Nat} {repl : PySem.Str} {t u : Tok} {Q : Value → Shared → Prop} (hf : Finds code x.toArray next) (hr : repl = T! rl) (h92 : rl.contains 92 = false)
    (hy : flat next x.toArray rl.toArray (x.length + 1) 0 = y) (hyl : y.length ≤ 100000) (hx : x.length ≤ 100000) (P : Pat s.heap p c 0 code) (hcl : s.TypeIs (.ref p) "re.Pattern")
    (h : ∀ h' o tk t', Heap.SameBut s.heap.objs.size (s.heap.push o) h' → Q (.str (T! y) t') { s with heap := h', toks := tk }) :
    wpAny (model prog w) A (call (.builtin "re.Pattern.sub") [.ref p, .str repl u, .str (T! x) t]) Q E s := by
  subst hr
  have hjoin : Txt.join ⟨#[]⟩ ((pieces next x.toArray rl.toArray (x.toArray.size + 1) 0).map PySem.Str.mk) = T! y := by
    refine str_ext ?_
    rw [glued_flat, List.map_map, ← hy]
    rfl
  refine call_sub0 (x := T! x) (repl := T! rl) hf (by show x.toArray.size ≤ _; simp; omega) (by simpa using h92) _ ?_ rfl P hcl ?_
  · rw [sum_flat]
    have h1 : ((pieces next x.toArray rl.toArray (x.toArray.size + 1) 0).map Array.toList).flatten = y := by rw [← hy]; rfl
    have h2 := pieces_len next x.toArray rl.toArray (x.toArray.size + 1) 0
    have h3 : x.toArray.size = x.length := by simp
    show (((pieces next x.toArray rl.toArray (x.toArray.size + 1) 0).map Array.toList).flatten).length + _ ≤ _
    rw [h1, List.length_map]
    show y.length + (pieces next x.toArray rl.toArray (x.toArray.size + 1) 0).length ≤ _
    omega
  · intro h' o tk t' hs
    have := h h' o tk t' hs
    rwa [← hjoin] at this

theorem call_fix {x : List Nat} {repl : PySem.Str} {t u : Tok} {Q : Value → Shared → Prop} (hr : repl = T! [13, 10]) (hx : x.length ≤ 1000) (P : Pat s.heap p c 0 code3) (hcl : s.TypeIs (.ref p) "re.Pattern")
    (h : ∀ h' o tk t', Heap.SameBut s.heap.objs.size (s.heap.push o) h' → Q (.str (T! (fix x)) t') { s with heap := h', toks := tk }) :
    wpAny (model prog w) A (call (.builtin "re.Pattern.sub") [.ref p, .str repl u, .str (T! x) t]) Q E s := by
  refine call_subT (finds3 _) hr (by decide) ?_ (y := fix x) (by have := fix_len x; omega) (by omega) P hcl h
  have := flat3 x.toArray x.length 0 (x.length + 1) (by simp) (by omega)
  simpa using this

theorem call_quo {x : List Nat} {repl : PySem.Str} {t u : Tok} {Q : Value → Shared → Prop} (hr : repl = T! [46, 46]) (hx : x.length ≤ 1000) (P : Pat s.heap p c 0 code1) (hcl : s.TypeIs (.ref p) "re.Pattern")
    (h : ∀ h' o tk t', Heap.SameBut s.heap.objs.size (s.heap.push o) h' → Q (.str (T! (quo true x)) t') { s with heap := h', toks := tk }) :
    wpAny (model prog w) A (call (.builtin "re.Pattern.sub") [.ref p, .str repl u, .str (T! x) t]) Q E s := by
  refine call_subT (finds1 _) hr (by decide) ?_ (y := quo true x) (by have := quo_len x true; omega) (by omega) P hcl h
  have := flat1 x.toArray x.length 0 (x.length + 1) (by simp) (by omega)
  simpa [bolAt] using this

theorem bts_nat {x : List Nat} (hx : ∀ c ∈ x, c < 256) : (B! x).map (·.toNat) = x.toArray := by
  simp only [List.map_toArray, List.map_map]
  congr 1
  rw [List.map_congr_left (g := id), List.map_id]
  intro c hc
  have := hx c hc
  simp [UInt8.toNat_ofNat]
  omega
theorem bts_of {B : Array UInt8} {y : List Nat} (h : B.toList.map (·.toNat) = y) : B = B! y := by
  subst h
  show B = ((B.toList.map (·.toNat)).map (·.toUInt8)).toArray
  have e : ((fun x : Nat => x.toUInt8) ∘ fun x : UInt8 => x.toNat) = id := by funext x; simp
  rw [List.map_map, e, List.map_id]

theorem call_quoB {x : List Nat} {repl : Array UInt8} {t u : Tok} {Q : Value → Shared → Prop} (hr : repl = #[46, 46]) (hx : x.length ≤ 1000) (hx8 : ∀ c ∈ x, c < 256) (P : Pat s.heap p c 1 code1) (hcl : s.TypeIs (.ref p) "re.Pattern")
    (h : ∀ h' o tk t', Heap.SameBut s.heap.objs.size (s.heap.push o) h' → Q (.bytes (B! (quo true x)) t') { s with heap := h', toks := tk }) :
    wpAny (model prog w) A (call (.builtin "re.Pattern.sub") [.ref p, .bytes repl u, .bytes (B! x) t]) Q E s := by
  subst hr
  have hsz : (B! x).size = x.length := by simp
  have hfl : ((pieces (next1 x.toArray) (B! x) #[46, 46] ((B! x).size + 1) 0).map Array.toList).flatten.map (·.toNat) = quo true x := by
    have e := flat_map (fun c : UInt8 => c.toNat) (next1 x.toArray) (B! x) #[46, 46] ((B! x).size + 1) 0
    rw [bts_nat hx8] at e
    have e2 := flat1 x.toArray x.length 0 (x.length + 1) (by simp) (by omega)
    rw [hsz] at e ⊢
    refine e.trans (Eq.trans ?_ (e2.trans (by simp [bolAt])))
    rw [show Array.map (fun c : UInt8 => c.toNat) #[46, 46] = #[46, 46] by simp]
  have hjoin : Builtin.Bytes.joined #[] (pieces (next1 x.toArray) (B! x) #[46, 46] ((B! x).size + 1) 0) = B! (quo true x) := bts_of (by rw [joined_flat]; exact hfl)
  have hl := congrArg List.length hfl
  rw [List.length_map] at hl
  have hq := quo_len x true
  have hp := pieces_len (next1 x.toArray) (B! x) #[46, 46] ((B! x).size + 1) 0
  refine call_sub1 (x := B! x) (repl := #[46, 46]) (by rw [bts_nat hx8]; exact finds1 _) (by rw [hsz]; omega) (by decide +kernel) _ ?_ ?_ ?_ rfl P hcl ?_
  · rw [hjoin]; simp; omega
  · have key : ∀ (L : List (Array UInt8)) (n : Nat), L.foldl (· + ·.size) n = n + ((L.map Array.toList).flatten).length := by
      intro L
      induction L with
      | nil => intro n; rfl
      | cons a L ih => intro n; rw [List.foldl_cons, ih]; simp; omega
    rw [key]; omega
  · omega
  · intro h' o tk t' hs
    have := h h' o tk t' hs
    rwa [← hjoin] at this
end
end Mine
end

section
open PySem PySem.W PyProof.Rows
namespace Mine

/-- the values made of a list of places -/
inductive Made (V : Nat → Value → Prop) : List Nat → List Value → Prop
  | nil : Made V [] []
  | cons {i is v vs} : V i v → Made V is vs → Made V (i :: is) (v :: vs)
theorem Made.snoc {V : Nat → Value → Prop} {i : Nat} {v : Value} (h : V i v) : ∀ {is vs}, Made V is vs → Made V (is ++ [i]) (vs ++ [v])
  | _, _, .nil => .cons h .nil
  | _, _, .cons h1 r => .cons h1 (Made.snoc h r)
theorem Made.len {V : Nat → Value → Prop} : ∀ {is vs}, Made V is vs → vs.length = is.length
  | _, _, .nil => rfl
  | _, _, .cons _ r => by simp [Made.len r]
theorem Made.strs {V : Nat → Value → Prop} {g : Nat → PySem.Str} : ∀ {is vs}, Made V is vs → (∀ i ∈ is, ∀ v, V i v → ∃ t, v = .str (g i) t) → StrsAre vs (is.map g)
  | _, _, .nil, _ => .nil
  | _, _, .cons h1 r, hV => by
    obtain ⟨t, rfl⟩ := hV _ List.mem_cons_self _ h1
    exact .cons _ t (Made.strs r fun i hi => hV i (List.mem_cons_of_mem _ hi))
theorem Made.ints {V : Nat → Value → Prop} {g : Nat → Int} : ∀ {is vs}, Made V is vs → (∀ i ∈ is, ∀ v, V i v → ∃ t, v = .int (g i) t) → IntsAre vs (is.map g)
  | _, _, .nil, _ => .nil
  | _, _, .cons h1 r, hV => by
    obtain ⟨t, rfl⟩ := hV _ List.mem_cons_self _ h1
    exact .cons _ t (Made.ints r fun i hi => hV i (List.mem_cons_of_mem _ hi))

section
variable {prog : Program} {w : World} {A : Around} {h₀ : Heap} {L : Addr} {m : Str → Option Value} {env : Env} {ct elt : Expr} {x : Str} {scope : Scope} {cl : List (Str × Addr)} {s : Shared} {S : List (Addr × Obj) → Prop} {P : Nat → Value → Prop} {Fin : List Value → List (Addr × Obj) → Prop} {news : List (Addr × Obj)}
theorem rest_U {n : Nat} (V : Nat → Value → Prop)
    (turn : ∀ i v I oI C oC D m₂ ys h tk (E' : Value → Shared → Prop), i < n → P i v → LCg.NsObj oC m₂ → m₂ x = some v → Fr h₀ L h m → News h₀ L h ((I, oI) :: (C, oC) :: (D, LCg.lst ys) :: news) → LCg.Off3 I C D news → ((@Ne Nat I C) ∧ (@Ne Nat I D) ∧ (@Ne Nat C D)) →
      wpAny (model prog w) A (eval elt (compEnvC scope cl C env)) (LCg.CompEnd h₀ L m { s with heap := h, toks := tk } I oI C oC D (LCg.lst ys) S (fun y news' => news' = news ∧ V i y)) E' { s with heap := h, toks := tk })
    (fin : ∀ ys, Made V (List.range n) ys → Fin ys news) : LCg.CompRest prog w A h₀ L m env elt x scope cl s S P Fin n 0 [] news := by
  have key : ∀ (j i : Nat) (ys : List Value), i + j = n → Made V (List.range i) ys → LCg.CompRest prog w A h₀ L m env elt x scope cl s S P Fin j i ys news := by
    intro j
    induction j with
    | zero =>
      intro i ys hi hy
      have e : i = n := by omega
      subst e
      exact LCg.CompRest.zero (fin ys hy)
    | succ j ih =>
      intro i ys hi hy
      refine LCg.CompRest.succ ?_
      intro v I oI C oC D m₂ h tk E' hv hC hx F N off ne
      refine wpAny_mono (turn i v I oI C oC D m₂ ys h tk E' (by omega) hv hC hx F N off ne) (fun y s₂ hq => ?_) fun _ _ e => e
      obtain ⟨h', tk', nw, e, F', N', off', hS, hn, hy'⟩ := hq
      rw [hn] at N' off' hS
      exact ⟨h', tk', news, e, F', N', off', hS, ih (i + 1) _ (by omega) (by rw [List.range_succ]; exact hy.snoc hy')⟩
  exact key n 0 [] (by omega) .nil
/-- the test's value -/
def TEnd (a b : Bool) : Prop := a = b
theorem rest_T {n : Nat} (c : Nat → Bool) (V : Nat → Value → Prop)
    (turn : ∀ i v I oI C oC D m₂ ys h tk (E' : Value → Shared → Prop), i < n → P i v → LCg.NsObj oC m₂ → m₂ x = some v → Fr h₀ L h m → News h₀ L h ((I, oI) :: (C, oC) :: (D, LCg.lst ys) :: news) → LCg.Off3 I C D news → ((@Ne Nat I C) ∧ (@Ne Nat I D) ∧ (@Ne Nat C D)) →
      wpAny (model prog w) A (isTrue ct (compEnvC scope cl C env) (eval ct (compEnvC scope cl C env))) (fun b s' => LCg.CompEnd h₀ L m { s with heap := h, toks := tk } I oI C oC D (LCg.lst ys) S (fun _ news' => news' = news ∧ TEnd b (c i)) Value.none s') E' { s with heap := h, toks := tk })
    (turn2 : ∀ i v I oI C oC D m₂ ys h tk (E' : Value → Shared → Prop), i < n → c i = true → P i v → LCg.NsObj oC m₂ → m₂ x = some v → Fr h₀ L h m → News h₀ L h ((I, oI) :: (C, oC) :: (D, LCg.lst ys) :: news) → LCg.Off3 I C D news → ((@Ne Nat I C) ∧ (@Ne Nat I D) ∧ (@Ne Nat C D)) →
      wpAny (model prog w) A (eval elt (compEnvC scope cl C env)) (LCg.CompEnd h₀ L m { s with heap := h, toks := tk } I oI C oC D (LCg.lst ys) S (fun y news' => news' = news ∧ V i y)) E' { s with heap := h, toks := tk })
    (fin : ∀ ys, Made V ((List.range n).filter c) ys → Fin ys news) : LCt.CompRestT prog w A h₀ L m env ct elt x scope cl s S P Fin n 0 [] news := by
  have key : ∀ (j i : Nat) (ys : List Value), i + j = n → Made V ((List.range i).filter c) ys → LCt.CompRestT prog w A h₀ L m env ct elt x scope cl s S P Fin j i ys news := by
    intro j
    induction j with
    | zero =>
      intro i ys hi hy
      have e : i = n := by omega
      subst e
      exact LCt.CompRestT.zero (fin ys hy)
    | succ j ih =>
      intro i ys hi hy
      refine LCt.CompRestT.succ ?_
      intro v I oI C oC D m₂ h tk E' hv hC hx F N off ne
      refine wpAny_mono (turn i v I oI C oC D m₂ ys h tk E' (by omega) hv hC hx F N off ne) (fun b s₂ hq => ?_) fun _ _ e => e
      obtain ⟨h₁, tk₁, nw₁, rfl, F₁, N₁, off₁, hS₁, hn₁, hb⟩ := hq
      rw [hn₁] at N₁ off₁ hS₁
      have hb' : b = c i := hb
      cases b with
      | true =>
        simp only [if_true]
        refine wpAny_mono (turn2 i v I oI C oC D m₂ ys h₁ tk₁ E' (by omega) hb'.symm hv hC hx F₁ N₁ off₁ ne) (fun y s₃ hr => ?_) fun _ _ e => e
        obtain ⟨h', tk', nw, e, F', N', off', hS, hn, hy'⟩ := hr
        rw [hn] at N' off' hS
        refine ⟨h', tk', news, e, F', N', off', hS, ih (i + 1) _ (by omega) ?_⟩
        rw [List.range_succ, List.filter_append]
        simpa [← hb'] using hy.snoc hy'
      | false =>
        simp only [Bool.false_eq_true, if_false]
        refine ⟨h₁, tk₁, news, rfl, F₁, N₁, off₁, hS₁, ih (i + 1) _ (by omega) ?_⟩
        rw [List.range_succ, List.filter_append]
        simpa [← hb'] using hy
  exact key n 0 [] (by omega) .nil


/-- the sign that a number picks -/
def pick (k : Int) : Nat := [97, 46, 10, 32].getD (k.fmod 4).toNat 0
theorem pick_eq (k : Int) : Txt.item (Str.ofString "a.\n ") (k.fmod 4) = T! [pick k] := by
  have h1 : 0 ≤ k.fmod 4 := Int.fmod_nonneg_of_pos _ (by decide)
  have h2 : k.fmod 4 < 4 := Int.fmod_lt_of_pos _ (by decide)
  unfold pick
  generalize k.fmod 4 = r at h1 h2
  have : r = 0 ∨ r = 1 ∨ r = 2 ∨ r = 3 := by omega
  rcases this with rfl | rfl | rfl | rfl <;> decide +kernel
theorem src_at {ws : List Value} {ns : List Int} (h : IntsAre ws ns) (i : Nat) (v : Value) (hv : ws.toArray[i]? = some v) : ∃ k t, ns[i]? = some k ∧ v = .int k t := by
  obtain ⟨k, t, e, hk⟩ := IntsAre.at h i v (by simpa using hv)
  exact ⟨k, t, hk, e⟩

/-- a text of these signs -/
def IsS (y : List Nat) (v : Value) : Prop := ∃ t, v = .str (T! y) t

theorem c1_rest {ws : List Value} {ns : List Int} (hMI : IntsAre ws ns)
    (turn : ∀ k t I oI C oC D m₂ ys h tk (E' : Value → Shared → Prop), LCg.NsObj oC m₂ → m₂ x = some (.int k t) → Fr h₀ L h m → News h₀ L h ((I, oI) :: (C, oC) :: (D, LCg.lst ys) :: news) → LCg.Off3 I C D news → ((@Ne Nat I C) ∧ (@Ne Nat I D) ∧ (@Ne Nat C D)) →
      wpAny (model prog w) A (eval elt (compEnvC scope cl C env)) (LCg.CompEnd h₀ L m { s with heap := h, toks := tk } I oI C oC D (LCg.lst ys) S (fun y news' => news' = news ∧ IsS [pick k] y)) E' { s with heap := h, toks := tk })
    (fin : ∀ ys, StrsAre ys (ns.map fun k => T! [pick k]) → Fin ys news) : LCg.CompRest prog w A h₀ L m env elt x scope cl s S (fun i v => ws.toArray[i]? = some v) Fin ws.toArray.size 0 [] news := by
  refine rest_U (fun i v => ∃ k t, ns[i]? = some k ∧ v = .str (T! [pick k]) t) ?_ ?_
  · intro i v I oI C oC D m₂ ys h tk E' hi hv hC hx F N off ne
    obtain ⟨k, t, hk, rfl⟩ := src_at hMI i v hv
    refine wpAny_mono (turn k t I oI C oC D m₂ ys h tk E' hC hx F N off ne) (fun y s' hq => ?_) fun _ _ e => e
    obtain ⟨h', tk', nw, e, F', N', off', hS, hn, t', hy'⟩ := hq
    exact ⟨h', tk', nw, e, F', N', off', hS, hn, k, t', hk, hy'⟩
  · intro ys hy
    refine fin ys ?_
    have h1 := Made.strs (g := fun i => T! [pick (ns.getD i 0)]) hy (fun i hi v hv => by
      obtain ⟨k, t, hk, rfl⟩ := hv
      exact ⟨t, by simp [List.getD, hk]⟩)
    have h2 : (List.range ws.toArray.size).map (fun i => T! [pick (ns.getD i 0)]) = ns.map fun k => T! [pick k] := by
      rw [List.size_toArray, hMI.length]
      refine List.ext_getElem (by simp) fun i h1 h2 => ?_
      simp at h1
      simp [List.getD, h1]
    rwa [h2] at h1

/-- an int -/
def IsI (z : Int) (v : Value) : Prop := ∃ t, v = .int z t
theorem rest_R {n : Nat} (c : Nat → Bool) (g : Nat → Int)
    (turn : ∀ (i : Nat) t I oI C oC D m₂ ys h tk (E' : Value → Shared → Prop), i < n → LCg.NsObj oC m₂ → m₂ x = some (.int (i : Int) t) → Fr h₀ L h m → News h₀ L h ((I, oI) :: (C, oC) :: (D, LCg.lst ys) :: news) → LCg.Off3 I C D news → ((@Ne Nat I C) ∧ (@Ne Nat I D) ∧ (@Ne Nat C D)) →
      wpAny (model prog w) A (isTrue ct (compEnvC scope cl C env) (eval ct (compEnvC scope cl C env))) (fun b s' => LCg.CompEnd h₀ L m { s with heap := h, toks := tk } I oI C oC D (LCg.lst ys) S (fun _ news' => news' = news ∧ TEnd b (c i)) Value.none s') E' { s with heap := h, toks := tk })
    (turn2 : ∀ (i : Nat) t I oI C oC D m₂ ys h tk (E' : Value → Shared → Prop), i < n → c i = true → LCg.NsObj oC m₂ → m₂ x = some (.int (i : Int) t) → Fr h₀ L h m → News h₀ L h ((I, oI) :: (C, oC) :: (D, LCg.lst ys) :: news) → LCg.Off3 I C D news → ((@Ne Nat I C) ∧ (@Ne Nat I D) ∧ (@Ne Nat C D)) →
      wpAny (model prog w) A (eval elt (compEnvC scope cl C env)) (LCg.CompEnd h₀ L m { s with heap := h, toks := tk } I oI C oC D (LCg.lst ys) S (fun y news' => news' = news ∧ IsI (g i) y)) E' { s with heap := h, toks := tk })
    (fin : ∀ ys, IntsAre ys (((List.range n).filter c).map g) → Fin ys news) : LCt.CompRestT prog w A h₀ L m env ct elt x scope cl s S (fun i v => ∃ t, v = .int ((0 : Int) + (i : Int)) t) Fin n 0 [] news := by
  refine rest_T c (fun i v => IsI (g i) v) ?_ ?_ ?_
  · intro i v I oI C oC D m₂ ys h tk E' hi hv hC hx F N off ne
    obtain ⟨t, rfl⟩ := hv
    rw [Int.zero_add] at hx
    exact turn i t I oI C oC D m₂ ys h tk E' hi hC hx F N off ne
  · intro i v I oI C oC D m₂ ys h tk E' hi hc hv hC hx F N off ne
    obtain ⟨t, rfl⟩ := hv
    rw [Int.zero_add] at hx
    exact turn2 i t I oI C oC D m₂ ys h tk E' hi hc hC hx F N off ne
  · intro ys hy
    exact fin ys (hy.ints fun i _ v hv => hv)
end
end Mine
end

section
open PySem PySem.W PyProof.Rows
namespace Mine

noncomputable def joinL (sp : List Nat) : List (List Nat) → List Nat
  | [] => []
  | [a] => a
  | a :: b :: r => a ++ sp ++ joinL sp (b :: r)
theorem joinL_nil_map (l : List Nat) : joinL [] (l.map fun c => [c]) = l := by
  induction l with
  | nil => rfl
  | cons a r ih =>
    cases r with
    | nil => rfl
    | cons b r => 
      show [a] ++ [] ++ joinL [] ((b :: r).map fun c => [c]) = _
      rw [ih]; rfl
theorem glued_T (sp : List Nat) (l : List (List Nat)) : Txt.join (T! sp) (l.map fun y => T! y) = T! (joinL sp l) := by
  have key : ∀ (r : List (List Nat)) (a acc : List Nat), ((r.map fun y => T! y).foldl (fun acc p => acc ++ (T! sp).cps ++ p.cps) (acc ++ a).toArray).toList = acc ++ joinL sp (a :: r) := by
    intro r
    induction r with
    | nil => intro a acc; rfl
    | cons b r ih =>
      intro a acc
      rw [List.map_cons, List.foldl_cons]
      have := ih b (acc ++ a ++ sp)
      have e : (acc ++ a).toArray ++ (T! sp).cps ++ (T! b).cps = (acc ++ a ++ sp ++ b).toArray := by simp
      rw [e, this]
      show _ = acc ++ (a ++ sp ++ joinL sp (b :: r))
      simp
  cases l with
  | nil => rfl
  | cons a r =>
    refine str_ext ?_
    have := key r a []
    exact this
theorem joinL_len (sp : List Nat) : ∀ l : List (List Nat), (joinL sp l).length ≤ (l.map (·.length)).sum + l.length * sp.length
  | [] => by simp [joinL]
  | [a] => by simp [joinL]
  | a :: b :: r => by
    have := joinL_len sp (b :: r)
    simp only [joinL, List.length_append, List.map_cons, List.sum_cons, List.length_cons, Nat.succ_mul] at this ⊢
    omega

theorem ones_sum (ns : List Int) : (((ns.map pick).map fun c => [c]).map (·.length)).sum = ns.length := by
  induction ns with
  | nil => rfl
  | cons k r ih =>
    simp only [List.map_cons, List.sum_cons, ih, List.length_cons, List.length_nil]
    omega
section
variable {prog : Program} {w : World} {A : Around} {E : Value → Shared → Prop} {s : Shared} {Q : Value → Shared → Prop}
theorem join_T {D : Addr} {ys : List Value} {sep : PySem.Str} {sp : List Nat} {t : Tok} {l : List (List Nat)} (hl : s.heap.IsList D ys.toArray) (hi : StrsAre ys (l.map fun y => T! y)) (hsep : sep = T! sp) (hsp : sp.length ≤ 16)
    (hw : (l.map (·.length)).sum + l.length ≤ 1048576) (h : ∀ t' k, Q (.str (T! (joinL sp l)) t') { s with toks := k }) : wpAny (model prog w) A (call (.builtin "str.join") [.str sep t, .ref D]) Q E s := by
  subst hsep
  refine join_listW hl hi (by show sp.toArray.size ≤ 16; simpa using hsp) ?_ fun t' k => ?_
  · have : ((l.map fun y => T! y).map (·.length)).sum = (l.map (·.length)).sum := by
      rw [List.map_map]; congr 1
    rw [this, List.length_map]; exact hw
  · rw [glued_T]; exact h t' k

theorem join_one {D : Addr} {ys : List Value} {sep : PySem.Str} {t : Tok} {ns : List Int} (hl : s.heap.IsList D ys.toArray) (hi : StrsAre ys (ns.map fun k => T! [pick k])) (hsep : sep = T! []) (hn : ns.length ≤ 100)
    (h : ∀ x t' k, x = ns.map pick → x.length ≤ ns.length → (∀ c ∈ x, c = 97 ∨ c = 46 ∨ c = 10 ∨ c = 32) → Q (.str (T! x) t') { s with toks := k }) : wpAny (model prog w) A (call (.builtin "str.join") [.str sep t, .ref D]) Q E s := by
  have e : (ns.map fun k => T! [pick k]) = ((ns.map pick).map fun c => [c]).map fun y => T! y := by simp [List.map_map]
  rw [e] at hi
  refine join_T hl hi hsep (by decide) ?_ fun t' k => ?_
  · have := ones_sum ns
    rw [this]; simp; omega
  · rw [joinL_nil_map]
    refine h _ t' k rfl (by simp) ?_
    intro c hc
    obtain ⟨a, _, rfl⟩ := List.mem_map.mp hc
    have h1 : 0 ≤ a.fmod 4 := Int.fmod_nonneg_of_pos _ (by decide)
    have h2 : a.fmod 4 < 4 := Int.fmod_lt_of_pos _ (by decide)
    unfold pick
    generalize a.fmod 4 = r at h1 h2
    have : r = 0 ∨ r = 1 ∨ r = 2 ∨ r = 3 := by omega
    rcases this with rfl | rfl | rfl | rfl <;> decide
end
end Mine
end

section
open PySem PySem.W PyProof.Rows
namespace Mine
open PySem.StrLaws PySem.Builtin.Str

theorem at_iff {x sp : List Nat} {k : Nat} : At (T! x) (T! sp) (T! x).length k ↔ k + sp.length ≤ x.length ∧ (x.drop k).take sp.length = sp := by
  have e1 : (T! x).length = x.length := by show x.toArray.size = _; simp
  have e2 : (T! sp).length = sp.length := by show sp.toArray.size = _; simp
  unfold At subAt
  rw [e1, e2, beq_iff_eq]
  refine and_congr_right fun _ => ?_
  rw [← Array.toList_inj]
  show ((x.toArray.extract k (k + sp.length)).toList = sp.toArray.toList) ↔ _
  rw [Array.toList_extract, List.extract_eq_take_drop]
  simp

theorem parts_T {c0 : Nat} {sp' : List Nat} {x : List Nat} : ∀ (rows : List (List Nat)) (a : Nat) (cuts : List Nat) (f : Nat), rows ≠ [] → (∀ r ∈ rows, c0 ∉ r) → a ≤ x.length → x.drop a = joinL (c0 :: sp') rows →
    ChainG (T! x) (T! (c0 :: sp')) (T! x).length a cuts f → (∀ k, f ≤ k → ¬ At (T! x) (T! (c0 :: sp')) (T! x).length k) → partsFrom (T! x) (c0 :: sp').length a cuts = rows.map fun r => T! r
  | [], _, _, _, h, _, _, _, _, _ => absurd rfl h
  | [r], a, cuts, f, _, hr, ha, hx, hg, hl => by
    have hr0 := hr r List.mem_cons_self
    have hx' : x.drop a = r := hx
    have no : ∀ k, a ≤ k → ¬ At (T! x) (T! (c0 :: sp')) (T! x).length k := by
      intro k hk hA
      obtain ⟨h1, h2⟩ := at_iff.mp hA
      have h3 : x.drop k = r.drop (k - a) := by rw [← hx', List.drop_drop]; congr 1; omega
      rw [h3] at h2
      have : c0 ∈ r := by
        have h4 : c0 ∈ (r.drop (k - a)).take (c0 :: sp').length := by rw [h2]; exact List.mem_cons_self
        exact List.mem_of_mem_drop (List.mem_of_mem_take h4)
      exact hr0 this
    cases cuts with
    | nil =>
      show [strSub (T! x) a (T! x).length] = [T! r]
      have e1 : (T! x).length = x.length := by show x.toArray.size = _; simp
      congr 1
      refine str_ext ?_
      show (x.toArray.extract a (T! x).length).toList = r
      rw [e1, Array.toList_extract, List.extract_eq_take_drop, ← hx']
      exact List.take_of_length_le (by simp)
    | cons c cs => exact absurd hg.2.1 (no c hg.1)
  | r :: r2 :: rs, a, cuts, f, _, hr, ha, hx, hg, hl => by
    have hr0 := hr r List.mem_cons_self
    have hx' : x.drop a = r ++ ((c0 :: sp') ++ joinL (c0 :: sp') (r2 :: rs)) := by rw [hx]; simp [joinL]
    have hlen : x.length = a + (r.length + ((c0 :: sp').length + (joinL (c0 :: sp') (r2 :: rs)).length)) := by
      have := congrArg List.length hx'
      simp only [List.length_drop, List.length_append] at this
      omega
    have hat : At (T! x) (T! (c0 :: sp')) (T! x).length (a + r.length) := by
      refine at_iff.mpr ⟨by omega, ?_⟩
      rw [← List.drop_drop, hx', List.drop_left, List.take_left]
    have no : ∀ k, a ≤ k → k < a + r.length → ¬ At (T! x) (T! (c0 :: sp')) (T! x).length k := by
      intro k hk hk2 hA
      obtain ⟨h1, h2⟩ := at_iff.mp hA
      have h3 : x.drop k = (r ++ ((c0 :: sp') ++ joinL (c0 :: sp') (r2 :: rs))).drop (k - a) := by rw [← hx', List.drop_drop]; congr 1; omega
      rw [h3, List.drop_append_of_le_length (by omega)] at h2
      obtain ⟨y, ys, hy⟩ : ∃ y ys, r.drop (k - a) = y :: ys := by
        cases hq : r.drop (k - a) with
        | nil =>
          have := congrArg List.length hq
          simp at this; omega
        | cons y ys => exact ⟨y, ys, rfl⟩
      rw [hy] at h2
      have h4 : y = c0 := by
        simp only [List.cons_append, List.length_cons, List.take_succ_cons] at h2
        exact (List.cons.inj h2).1
      exact hr0 (h4 ▸ List.mem_of_mem_drop (i := k - a) (by rw [hy]; exact List.mem_cons_self))
    cases cuts with
    | nil =>
      have e : f = a := hg
      exact absurd hat (hl _ (by omega))
    | cons c cs =>
      have hc : c = a + r.length := by
        rcases Nat.lt_trichotomy c (a + r.length) with h | h | h
        · exact absurd hg.2.1 (no c hg.1 h)
        · exact h
        · exact absurd hat (hg.2.2.1 _ (by omega) h)
      subst hc
      have e2 : (T! (c0 :: sp')).length = (c0 :: sp').length := by show (c0 :: sp').toArray.size = _; simp
      have ih := parts_T (r2 :: rs) (a + r.length + (c0 :: sp').length) cs f (by simp) (fun y hy => hr y (List.mem_cons_of_mem _ hy)) (by omega) (by rw [← List.drop_drop, ← List.drop_drop, hx', List.drop_left, List.drop_left]) (by have := hg.2.2.2; rwa [e2] at this) hl
      show strSub (T! x) a (a + r.length) :: partsFrom (T! x) (c0 :: sp').length (a + r.length + (c0 :: sp').length) cs = T! r :: ((r2 :: rs).map fun r => T! r)
      rw [ih]
      congr 1
      refine str_ext ?_
      show (x.toArray.extract a (a + r.length)).toList = r
      rw [Array.toList_extract, List.extract_eq_take_drop]
      show (x.drop a).take (a + r.length - a) = r
      rw [hx', show a + r.length - a = r.length by omega, List.take_left]

theorem kind_T {x : List Nat} (h : ∀ c ∈ x, c < 128) : PySem.Builtin.Str.strKind (T! x) = 1 := by
  unfold PySem.Builtin.Str.strKind
  rw [if_pos]
  rw [← Array.all_toList, List.all_eq_true]
  intro c hc
  have := h c (by simpa using hc)
  simpa using (by omega : c < 256)

theorem split_T {c0 : Nat} {sp' : List Nat} {rows : List (List Nat)} (hne : rows ≠ []) (hr : ∀ r ∈ rows, c0 ∉ r) (hx : ∀ c ∈ joinL (c0 :: sp') rows, c < 128) (hs : ∀ c ∈ c0 :: sp', c < 128) :
    Txt.split (T! (joinL (c0 :: sp') rows)) (T! (c0 :: sp')) = rows.map fun r => T! r := by
  have e1 : (T! (joinL (c0 :: sp') rows)).length = (joinL (c0 :: sp') rows).length := by show (joinL (c0 :: sp') rows).toArray.size = _; simp
  have e2 : (T! (c0 :: sp')).length = (c0 :: sp').length := by show (c0 :: sp').toArray.size = _; simp
  obtain ⟨f, hg, hl⟩ := occ_tight (T! (joinL (c0 :: sp') rows)) (T! (c0 :: sp')) (by rw [e2]; simp)
  have key := parts_T rows 0 _ f hne hr (Nat.zero_le _) rfl hg hl
  unfold Txt.split
  rw [kind_T hx, kind_T hs]
  have one : ∀ r, rows = [r] → [T! (joinL (c0 :: sp') rows)] = rows.map fun r => T! r := by rintro r rfl; rfl
  by_cases hlt : (T! (joinL (c0 :: sp') rows)).length < (T! (c0 :: sp')).length
  · rw [if_pos (by simp [hlt])]
    cases rows with
    | nil => exact absurd rfl hne
    | cons r rs => cases rs with
      | nil => rfl
      | cons r2 rs =>
        rw [e1, e2] at hlt
        simp [joinL] at hlt
        omega
  · rw [if_neg (by simp [hlt])]
    by_cases hem : (occurrences (T! (joinL (c0 :: sp') rows)) (T! (c0 :: sp')) 0 (T! (joinL (c0 :: sp') rows)).length ((T! (joinL (c0 :: sp') rows)).length + 1)).isEmpty = true
    · rw [if_pos hem]
      have hnil : occurrences (T! (joinL (c0 :: sp') rows)) (T! (c0 :: sp')) 0 (T! (joinL (c0 :: sp') rows)).length ((T! (joinL (c0 :: sp') rows)).length + 1) = [] := by simpa using hem
      rw [hnil] at key
      rw [← key]
      show _ = [strSub _ 0 _]
      congr 1
      refine (str_ext ?_).symm
      show ((joinL (c0 :: sp') rows).toArray.extract 0 (T! (joinL (c0 :: sp') rows)).length).toList = _
      rw [e1]; simp
    · rw [if_neg hem, partsBetween_eq, e2]
      exact key
end Mine
end

section
open PySem PySem.W PyProof.Rows
namespace Mine

noncomputable def splitL : List Nat → List (List Nat)
  | [] => [[]]
  | c :: r => if c = 10 then [] :: splitL r else ((c :: (splitL r).headD []) :: (splitL r).tail)
theorem splitL_ne : ∀ x, splitL x ≠ []
  | [] => by simp [splitL]
  | c :: r => by rw [splitL]; split <;> simp
theorem splitL_cons (x : List Nat) : splitL x = (splitL x).headD [] :: (splitL x).tail := by
  cases h : splitL x with
  | nil => exact absurd h (splitL_ne x)
  | cons a r => rfl
theorem joinL_cons_ne (sp a : List Nat) {l : List (List Nat)} (h : l ≠ []) : joinL sp (a :: l) = a ++ sp ++ joinL sp l := by
  cases l with
  | nil => exact absurd rfl h
  | cons b r => rfl
theorem joinL_cons_head (sp : List Nat) (c : Nat) (a : List Nat) (l : List (List Nat)) : joinL sp ((c :: a) :: l) = c :: joinL sp (a :: l) := by
  cases l <;> simp [joinL]
theorem join_splitL : ∀ x, joinL [10] (splitL x) = x
  | [] => rfl
  | c :: r => by
    rw [splitL]
    have ih := join_splitL r
    split
    · rename_i h
      rw [joinL_cons_ne _ _ (splitL_ne r), ih, h]; rfl
    · rw [joinL_cons_head, ← splitL_cons, ih]
theorem splitL_mem : ∀ (x : List Nat), ∀ r ∈ splitL x, ∀ c ∈ r, c ∈ x ∧ c ≠ 10
  | [], r, hr, c, hc => by simp [splitL] at hr; subst hr; cases hc
  | a :: x, r, hr, c, hc => by
    have ih := splitL_mem x
    rw [splitL] at hr
    split at hr
    · rcases List.mem_cons.mp hr with rfl | hr
      · cases hc
      · have := ih r hr c hc
        exact ⟨List.mem_cons_of_mem _ this.1, this.2⟩
    · rename_i ha
      rcases List.mem_cons.mp hr with rfl | hr
      · rcases List.mem_cons.mp hc with rfl | hc
        · exact ⟨List.mem_cons_self, ha⟩
        · have := ih ((splitL x).headD []) (by rw [splitL_cons x]; simp) c hc
          exact ⟨List.mem_cons_of_mem _ this.1, this.2⟩
      · have := ih r (List.mem_of_mem_tail hr) c hc
        exact ⟨List.mem_cons_of_mem _ this.1, this.2⟩
theorem splitL_len : ∀ x : List Nat, (splitL x).length = x.count 10 + 1
  | [] => rfl
  | c :: r => by
    have ih := splitL_len r
    rw [splitL]
    split
    · rename_i h; subst h; simp [ih]
    · rename_i h
      rw [List.length_cons, List.length_tail, ih, List.count_cons_of_ne (by exact h)]; omega
theorem splitL_part_len : ∀ (x : List Nat), ∀ r ∈ splitL x, r.length ≤ x.length
  | [], r, hr => by simp [splitL] at hr; subst hr; simp
  | a :: x, r, hr => by
    have ih := splitL_part_len x
    rw [splitL] at hr
    split at hr
    · rcases List.mem_cons.mp hr with rfl | hr
      · simp
      · have := ih r hr; simp; omega
    · rcases List.mem_cons.mp hr with rfl | hr
      · have := ih ((splitL x).headD []) (by rw [splitL_cons x]; simp)
        simp only [List.length_cons]; omega
      · have := ih r (List.mem_of_mem_tail hr); simp; omega

/-- a row that begins with a point gets one more -/
def dot (r : List Nat) : List Nat := if r.take 1 = [46] then 46 :: r else r
def undot (r : List Nat) : List Nat := if r.take 1 = [46] then r.drop 1 else r
theorem undot_dot (r : List Nat) : undot (dot r) = r := by
  unfold undot dot
  by_cases h : r.take 1 = [46]
  · simp [h]
  · simp [h]
theorem dot_ne (r : List Nat) : dot r ≠ [46] := by
  unfold dot
  split
  · rename_i h
    intro e
    have : r = [] := by simpa using e
    subst this; simp at h
  · rename_i h
    rintro rfl
    exact h rfl

theorem fix_10 (r : List Nat) : fix (10 :: r) = 13 :: 10 :: fix r := by rw [fix]
theorem fix_c {c : Nat} {r : List Nat} (h1 : c ≠ 10) (h2 : c ≠ 13) : fix (c :: r) = c :: fix r := fix_other h1 h2
theorem fix_1310 (r : List Nat) : fix (13 :: 10 :: r) = 13 :: 10 :: fix r := by rw [fix]

theorem law_fix : ∀ x : List Nat, 13 ∉ x → fix x = joinL [13, 10] (splitL x)
  | [], _ => rfl
  | c :: r, h => by
    have ih := law_fix r (fun q => h (List.mem_cons_of_mem _ q))
    have hc : c ≠ 13 := fun e => h (e ▸ List.mem_cons_self)
    rw [splitL]
    split
    · rename_i e
      subst e
      rw [fix_10, joinL_cons_ne _ _ (splitL_ne r), ih]; rfl
    · rename_i e
      rw [fix_c e hc, joinL_cons_head, ← splitL_cons, ih]
theorem law_fix2 : ∀ x : List Nat, 13 ∉ x → fix (fix x) = fix x
  | [], _ => rfl
  | c :: r, h => by
    have ih := law_fix2 r (fun q => h (List.mem_cons_of_mem _ q))
    have hc : c ≠ 13 := fun e => h (e ▸ List.mem_cons_self)
    by_cases e : c = 10
    · subst e; rw [fix_10, fix_1310, ih]
    · rw [fix_c e hc, fix_c e hc, ih]

theorem quo_13 (b : Bool) (r : List Nat) : quo b (13 :: 10 :: r) = 13 :: 10 :: quo true r := by
  simp [quo]
/-- rows with points doubled but for the first, whose beginning may be no row's beginning -/
def dotB (b : Bool) (l : List (List Nat)) : List (List Nat) := match l with
  | [] => []
  | a :: r => (if b = true then dot a else a) :: r.map dot
theorem dotB_true (l : List (List Nat)) : dotB true l = l.map dot := by cases l <;> simp [dotB]
theorem law_quo : ∀ (x : List Nat) (b : Bool), 13 ∉ x → quo b (fix x) = joinL [13, 10] (dotB b (splitL x))
  | [], b, _ => by cases b <;> rfl
  | c :: r, b, h => by
    have hr : 13 ∉ r := fun q => h (List.mem_cons_of_mem _ q)
    have hc : c ≠ 13 := fun e => h (e ▸ List.mem_cons_self)
    rw [splitL]
    split
    · rename_i e
      subst e
      have ih := law_quo r true hr
      rw [fix_10, quo_13, ih, dotB_true]
      have : dotB b ([] :: splitL r) = [] :: (splitL r).map dot := by cases b <;> rfl
      rw [this, joinL_cons_ne _ _ (by simpa using splitL_ne r)]; rfl
    · rename_i e
      have ih := law_quo r false hr
      rw [fix_c e hc, quo]
      have e10 : (c == 10) = false := by simpa using e
      have hd : dotB false (splitL r) = (splitL r).headD [] :: (splitL r).tail.map dot := by
        conv => lhs; rw [splitL_cons r]
        rfl
      rw [hd] at ih
      show _ = joinL [13, 10] ((if b = true then dot (c :: (splitL r).headD []) else (c :: (splitL r).headD [])) :: (splitL r).tail.map dot)
      by_cases hb : b = true ∧ c = 46
      · obtain ⟨hb, rfl⟩ := hb
        rw [if_pos ⟨hb, rfl⟩, if_pos hb, ih]
        have : dot (46 :: (splitL r).headD []) = 46 :: 46 :: (splitL r).headD [] := by simp [dot]
        rw [this, joinL_cons_head, joinL_cons_head]
      · rw [if_neg hb, e10, ih]
        have : (if b = true then dot (c :: (splitL r).headD []) else (c :: (splitL r).headD [])) = c :: (splitL r).headD [] := by
          split
          · rename_i hb'
            have hc46 : c ≠ 46 := fun q => hb ⟨hb', q⟩
            simp [dot, hc46]
          · rfl
        rw [this, joinL_cons_head]
theorem law_told (x : List Nat) (h : 13 ∉ x) : quo true (fix x) = joinL [13, 10] ((splitL x).map dot) := by rw [law_quo x true h, dotB_true]

theorem law_swap : ∀ (x : List Nat) (b : Bool), 13 ∉ x → fix (quo b x) = quo b (fix x)
  | [], b, _ => rfl
  | c :: r, b, h => by
    have hr : 13 ∉ r := fun q => h (List.mem_cons_of_mem _ q)
    have hc : c ≠ 13 := fun e => h (e ▸ List.mem_cons_self)
    by_cases e : c = 10
    · subst e
      rw [fix_10, quo_13, quo, if_neg (by simp), fix_10]
      rw [show ((10 : Nat) == 10) = true from rfl, law_swap r true hr]
    · rw [fix_c e hc, quo, quo]
      by_cases hb : b = true ∧ c = 46
      · rw [if_pos hb, if_pos hb, fix_c (by decide) (by decide), fix_c (by decide) (by decide), law_swap r false hr]
      · rw [if_neg hb, if_neg hb, fix_c e hc, law_swap r _ hr]

/-- the points at rows' beginnings -/
noncomputable def cntp : Bool → List Nat → Nat
  | _, [] => 0
  | b, c :: r => (if b = true ∧ c = 46 then 1 else 0) + cntp (c == 10) r
theorem law_len : ∀ (x : List Nat) (b : Bool), 13 ∉ x → (quo b (fix x)).length = x.length + x.count 10 + cntp b x
  | [], b, _ => rfl
  | c :: r, b, h => by
    have hr : 13 ∉ r := fun q => h (List.mem_cons_of_mem _ q)
    have hc : c ≠ 13 := fun e => h (e ▸ List.mem_cons_self)
    by_cases e : c = 10
    · subst e
      have := law_len r true hr
      rw [fix_10, quo_13]
      simp only [List.length_cons, List.count_cons_self, cntp]
      rw [this]; simp; omega
    · have e10 : (c == 10) = false := by simpa using e
      have := law_len r false hr
      rw [fix_c e hc, quo, cntp, List.count_cons_of_ne (by exact e), e10]
      split <;> simp [this] <;> omega
/-- place k begins a row -/
def beg (x : List Nat) (k : Nat) : Bool := k == 0 || x.getD (k - 1) 0 == 10
theorem cntp_filter : ∀ (x : List Nat) (b : Bool), cntp b x = ((List.range x.length).filter fun k => x.getD k 0 == 46 && (if k = 0 then b else x.getD (k - 1) 0 == 10)).length
  | [], b => rfl
  | c :: r, b => by
    have e : ((fun k => (c :: r).getD k 0 == 46 && if k = 0 then b else (c :: r).getD (k - 1) 0 == 10) ∘ Nat.succ) = fun k => r.getD k 0 == 46 && (if k = 0 then c == 10 else r.getD (k - 1) 0 == 10) := by
      funext k
      cases k with
      | zero => simp
      | succ k => simp
    rw [cntp, cntp_filter r (c == 10), List.length_cons, List.range_succ_eq_map, List.filter_cons, List.filter_map, e]
    by_cases h : b = true ∧ c = 46
    · obtain ⟨h1, h2⟩ := h
      subst h1; subst h2
      simp; omega
    · rw [if_neg h, if_neg (by simpa using fun q => fun w => h ⟨w, q⟩)]
      simp
theorem law_points (x : List Nat) : cntp true x = ((List.range x.length).filter fun k => x.getD k 0 == 46 && beg x k).length := by
  rw [cntp_filter]
  congr 2
  funext k
  unfold beg
  by_cases h : k = 0
  · subst h; simp
  · have : (k == 0) = false := by simpa using h
    rw [if_neg h, this, Bool.false_or]

/-- the places where rows begin -/
def begs (x : List Nat) : List Int := (0 : Int) :: List.map (fun k : Nat => (k : Int) + 1) ((List.range x.length).filter fun k => x.getD k 0 == 10)
theorem begs_len (x : List Nat) : (begs x).length = x.count 10 + 1 := by
  unfold begs
  rw [List.length_cons, List.length_map]
  congr 1
  induction x with
  | nil => rfl
  | cons c r ih =>
    have e : ((fun k => (c :: r).getD k 0 == 10) ∘ Nat.succ) = fun k => r.getD k 0 == 10 := by funext k; simp
    rw [List.length_cons, List.range_succ_eq_map, List.filter_cons, List.filter_map, e]
    by_cases h : c = 10
    · subst h; rw [if_pos (by simp), List.length_cons, List.length_map, ih, List.count_cons_self]
    · rw [List.count_cons_of_ne (by exact h), if_neg (by simpa using h), List.length_map, ih]
theorem mem_begs (x : List Nat) (k : Nat) (hk : k < x.length) : (k : Int) ∈ begs x ↔ beg x k = true := by
  unfold begs beg
  simp only [List.mem_cons, List.mem_map, List.mem_filter, List.mem_range, Bool.or_eq_true, beq_iff_eq]
  constructor
  · rintro (h | ⟨j, ⟨h1, h2⟩, h3⟩)
    · left; omega
    · right
      have : j = k - 1 := by omega
      rwa [← this]
  · rintro (h | h)
    · left; omega
    · by_cases h0 : k = 0
      · left; omega
      · right; exact ⟨k - 1, ⟨by omega, h⟩, by omega⟩

/-- a place that parts the list by p -/
theorem part_count {bs : List Int} {p : Int → Bool} {i : Nat} (hi : i ≤ bs.length) (h1 : ∀ j, j < i → p (bs.getD j 0) = true) (h2 : ∀ j, i ≤ j → j < bs.length → p (bs.getD j 0) = false) : (bs.filter p).length = i := by
  have e := List.take_append_drop i bs
  have t1 : (bs.take i).filter p = bs.take i := by
    rw [List.filter_eq_self]
    intro a ha
    obtain ⟨j, hj, rfl⟩ := List.mem_iff_getElem.mp ha
    have hj' : j < i := by simp at hj; omega
    have := h1 j hj'
    rw [List.getElem_take]
    rwa [List.getD_eq_getElem?_getD, List.getElem?_eq_getElem (by simp at hj; omega)] at this
  have t2 : (bs.drop i).filter p = [] := by
    rw [List.filter_eq_nil_iff]
    intro a ha
    obtain ⟨j, hj, rfl⟩ := List.mem_iff_getElem.mp ha
    have := h2 (i + j) (by omega) (by simp at hj; omega)
    rw [List.getElem_drop]
    rw [List.getD_eq_getElem?_getD, List.getElem?_eq_getElem (by simp at hj; omega)] at this
    simpa using this
  rw [← e, List.filter_append, t1, t2]
  simp; omega

/-- the beginnings at or before k -/
theorem begs_le (x : List Nat) (k : Nat) : ((begs x).filter fun b => decide (b ≤ (k : Int))).length = (x.take k).count 10 + 1 := by
  unfold begs
  rw [List.filter_cons, if_pos (by simp), List.length_cons, List.filter_map, List.length_map]
  congr 1
  have e : ((fun b : Int => decide (b ≤ (k : Int))) ∘ fun j : Nat => (j : Int) + 1) = fun j => decide (j < k) := by
    funext j; simp; omega
  rw [e, List.filter_filter]
  clear e
  induction x generalizing k with
  | nil => simp
  | cons c r ih =>
    rw [List.length_cons, List.range_succ_eq_map, List.filter_cons, List.filter_map]
    cases k with
    | zero => simp
    | succ k =>
      have e2 : ((fun j => decide (j < k + 1) && ((c :: r).getD j 0 == 10)) ∘ Nat.succ) = fun j => decide (j < k) && (r.getD j 0 == 10) := by
        funext j; simp
      have := ih k
      rw [e2, List.take_succ_cons]
      by_cases h : c = 10
      · subst h; rw [if_pos (by simp), List.length_cons, List.length_map, this, List.count_cons_self]
      · rw [List.count_cons_of_ne (by exact h), if_neg (by simpa using h), List.length_map]; exact this
end Mine
end

section
open PySem PySem.W PyProof.Rows
namespace Mine
open PySem.Builtin

/-- Y is the text of the signs x -/
def Tis (n : Nat) (x : List Nat) (Y : PySem.Str) : Prop := Y = T! x ∧ x.length ≤ n ∧ ∀ c ∈ x, c < 128
def Bis (n : Nat) (x : List Nat) (B : Array UInt8) : Prop := B = B! x ∧ x.length ≤ n ∧ ∀ c ∈ x, c < 128
theorem Tis.len {n x Y} (h : Tis n x Y) : Y.length = x.length := by rw [h.1]; show x.toArray.size = _; simp
theorem Tis.cps {n x Y} (h : Tis n x Y) : Y.cps.toList = x := by rw [h.1]
theorem Tis.const (c : PySem.Str) (h : (c.cps.toList.all fun a => decide (a < 128)) = true) : Tis c.cps.toList.length c.cps.toList c :=
  ⟨rfl, Nat.le_refl _, fun a ha => by have := List.all_eq_true.mp h a ha; simpa using this⟩
theorem fits_line {n : Nat} (h : n ≤ 1000000) : n ≤ sizeLine := Nat.le_trans h (by rw [sizeLine_eq]; decide)

section
variable {prog : Program} {w : World} {A : Around} {E : Value → Shared → Prop} {s : Shared} {Q : Value → Shared → Prop} {n m : Nat} {x y : List Nat} {Y Z : PySem.Str} {t u : Tok} {h₀ : Heap} {L : Addr} {mm : PySem.Str → Option Value} {news : List (Addr × Obj)} {value slice : PySem.Expr}

theorem len_S (hY : Tis n x Y) (hn : n ≤ 1000000) (h : ∀ t k, Q (.int x.length t) { s with toks := k }) : wpAny (model prog w) A (call (.builtin "len") [.str Y t]) Q E s := by
  refine P.len_str ?_ ?_
  · have := hY.2.1; rw [hY.len]; omega
  · rw [hY.len]; exact h _ _

theorem item_S {i : Int} (hY : Tis n x Y) (hn : n ≤ 1000000) (h0 : 0 ≤ i) (h1 : i < (x.length : Int)) (h : ∀ Z k t', Tis 1 [x.getD i.toNat 0] Z → Q (.str Z t') { s with toks := k })
    (hs : subscripted slice false (.str Y t) (.int i u) = operate [.str Y t, .int i u] (getItem (.str Y t) (.int i u)) := by with_unfolding_all rfl)
    (ht : ∀ r, letTemporaryGo value (.str Y t) r = pure () := by intro _; with_unfolding_all rfl) :
    wpAny (model prog w) A (subscriptTail value slice (.str Y t) (.int i u)) Q E s := by
  have hl := hY.2.1
  refine KXi.item (n := x.length) hY.len (by omega) h1 (by omega) (fun _ => ?_) hs ht
  refine h _ _ _ ⟨?_, by simp, ?_⟩
  · have : Txt.item Y i = ⟨#[(Txt.charAt Y i).getD 0]⟩ := rfl
    rw [this]
    have hc : (Txt.charAt Y i).getD 0 = x.getD i.toNat 0 := by
      unfold Txt.charAt seqIndex?
      rw [hY.len]
      have hi : i = ((i.toNat : Nat) : Int) := by omega
      generalize i.toNat = j at *
      subst hi
      have hj : j < x.length := by omega
      have e1 : (if (j : Int) < 0 then (j : Int) + (x.length : Int) else (j : Int)) = (j : Int) := if_neg (by omega)
      dsimp only
      rw [e1]
      simp [hY.1, hj]
    rw [hc]
  · intro c hc
    simp at hc
    subst hc
    have hj : i.toNat < x.length := by omega
    refine hY.2.2 _ ?_
    simp [hj]

theorem eq_S (hY : Tis n x Y) (hZ : Tis m y Z) (h : Q (.bool (decide (x = y))) s) : wpAny (model prog w) A (compareOp .Eq (.str Y t) (.str Z u)) Q E s := by
  refine P.eq_str ?_
  rw [hY.cps, hZ.cps]
  have : (x == y) = decide (x = y) := by by_cases h : x = y <;> simp [h]
  rwa [this]
theorem ne_S (hY : Tis n x Y) (hZ : Tis m y Z) (he : x = y) (h : Q (.bool false) s) : wpAny (model prog w) A (compareOp .NotEq (.str Y t) (.str Z u)) Q E s := by
  refine P.ne_str ?_
  rw [hY.cps, hZ.cps, he]
  simpa using h
theorem eq_SC {c : PySem.Str} (hY : Tis n x Y) (h : Q (.bool (decide (x = c.cps.toList))) s) : wpAny (model prog w) A (compareOp .Eq (.str Y t) (.str c u)) Q E s := by
  refine P.eq_str ?_
  rw [hY.cps]
  have : (x == c.cps.toList) = decide (x = c.cps.toList) := by by_cases h : x = c.cps.toList <;> simp [h]
  rwa [this]

theorem add_S (hY : Tis n x Y) (hZ : Tis m y Z) (hnm : n + m ≤ 1000000) (h : ∀ W t' k, Tis (n + m) (x ++ y) W → Q (.str W t') { s with toks := k }) : wpAny (model prog w) A (binaryOp .Add (.str Y t) (.str Z u)) Q E s := by
  have hxy : Tis (n + m) (x ++ y) (T! (x ++ y)) := ⟨rfl, by have := hY.2.1; have := hZ.2.1; simp; omega, fun c hc => (List.mem_append.mp hc).elim (hY.2.2 c) (hZ.2.2 c)⟩
  refine P.add_str ?_
  rw [hY.len, hZ.len]
  by_cases h1 : x.length = 0
  · rw [if_pos (by simpa using h1)]
    have : x = [] := List.eq_nil_of_length_eq_zero h1
    subst this
    show Q (.str Z u) s
    have e := hZ.1
    have := h Z u s.toks (by rw [e]; exact hxy)
    exact this
  · rw [if_neg (by simpa using h1)]
    by_cases h2 : y.length = 0
    · rw [if_pos (by simpa using h2)]
      have : y = [] := List.eq_nil_of_length_eq_zero h2
      subst this
      have e := hY.1
      have := h Y t s.toks (by rw [e]; simpa using hxy)
      exact this
    · rw [if_neg (by simpa using h2)]
      refine ⟨?_, ?_⟩
      · rw [strLen_append, hY.len, hZ.len]
        have := hxy.2.1
        rw [List.length_append] at this
        exact fits_line (by omega)
      · have e : Y ++ Z = T! (x ++ y) := by
          refine str_ext ?_
          rw [hY.1, hZ.1]
          show (x.toArray ++ y.toArray).toList = _
          simp
        rw [e]
        exact h _ _ _ hxy

theorem picked (x : List Nat) (a : Nat) : ∀ m, a + m ≤ x.length → ((List.range m).map fun (k : Nat) => ((a : Int) + 1 * (k : Int)).toNat).filterMap (fun i => x.toArray[i]?) = (x.drop a).take m
  | 0, _ => by simp
  | m + 1, h => by
    rw [List.range_succ, List.map_append, List.filterMap_append, picked x a m (by omega), List.take_add_one]
    congr 1
    have e : ((a : Int) + 1 * (m : Int)).toNat = a + m := by omega
    have hl : a + m < x.length := by omega
    rw [List.map_singleton, e, List.filterMap_cons_some (b := x[a + m]) (by simp [hl]), List.filterMap_nil]
    simp [hl]
theorem slice_part (x : List Nat) (a b : Nat) (hab : a ≤ b) (hb : b ≤ x.length) : (sliceRange (a : Int) (b : Int) 1).filterMap (fun i => x.toArray[i]?) = (x.drop a).take (b - a) := by
  unfold sliceRange
  rw [if_pos (by decide)]
  by_cases h : a < b
  · rw [if_pos (by omega)]
    dsimp only
    rw [show (((b : Int) - a + 1 - 1) / 1).toNat = b - a by rw [Int.ediv_one]; omega]
    exact picked x a (b - a) (by omega)
  · rw [if_neg (by omega)]
    have : b - a = 0 := by omega
    rw [this]; simp
theorem sliceRange_len (a b : Nat) (hab : a ≤ b) : (sliceRange (a : Int) (b : Int) 1).length = b - a := by
  unfold sliceRange
  rw [if_pos (by decide), List.length_map, List.length_range]
  by_cases h : a < b
  · rw [if_pos (by omega), Int.ediv_one]; omega
  · rw [if_neg (by omega)]; omega
theorem slice_is (x : List Nat) (l u : Option Int) (a b : Nat) (hab : a ≤ b) (hb : b ≤ x.length) (h : Builtin.Str.strSliceIndices l u 1 x.length = sliceRange (a : Int) (b : Int) 1) : Txt.slice (T! x) l u = T! ((x.drop a).take (b - a)) := by
  have hl : (T! x).length = x.length := by show x.toArray.size = _; simp
  unfold Txt.slice
  rw [hl, h, sliceRange_len a b hab]
  split
  · rename_i hc
    have h1 : b - a = x.length := by simpa using hc
    have h2 : a = 0 := by omega
    subst h2
    rw [h1]; simp
  · congr 2
    exact slice_part x a b hab hb
theorem slice_take (x : List Nat) (j : Int) (hj : 0 ≤ j) : Txt.slice (T! x) none (some j) = T! (x.take j.toNat) := by
  by_cases h : j ≤ x.length
  · rw [slice_is x none (some j) 0 j.toNat (Nat.zero_le _) (by omega) ?_]
    · simp
    · unfold Builtin.Str.strSliceIndices
      simp only [show (1 : Int) > 0 by decide, if_true]
      rw [if_neg (by omega)]
      congr 1; omega
  · rw [slice_is x none (some j) 0 x.length (Nat.zero_le _) (Nat.le_refl _) ?_]
    · simp
      rw [List.take_of_length_le (by omega)]
    · unfold Builtin.Str.strSliceIndices
      simp only [show (1 : Int) > 0 by decide, if_true]
      rw [if_neg (by omega)]
      congr 1; omega
theorem slice_drop (x : List Nat) (j : Int) (hj : 0 ≤ j) : Txt.slice (T! x) (some j) none = T! (x.drop j.toNat) := by
  by_cases h : j ≤ x.length
  · rw [slice_is x (some j) none j.toNat x.length (by omega) (Nat.le_refl _) ?_]
    · congr 2
      exact List.take_of_length_le (by simp)
    · unfold Builtin.Str.strSliceIndices
      simp only [show (1 : Int) > 0 by decide, if_true]
      rw [if_neg (by omega)]
      congr 1; omega
  · rw [slice_is x (some j) none x.length x.length (Nat.le_refl _) (Nat.le_refl _) ?_]
    · congr 2
      simp
      omega
    · unfold Builtin.Str.strSliceIndices
      simp only [show (1 : Int) > 0 by decide, if_true]
      rw [if_neg (by omega)]
      congr 1; omega

theorem take_S {j : Int} {uj : Tok} (hY : Tis n x Y) (hn : n ≤ 1000000) (hj : 0 ≤ j) (hF : Fr h₀ L s.heap mm) (hN : News h₀ L s.heap news)
    (h : ∀ h' t' k Z, Fr h₀ L h' mm → News h₀ L h' news → Tis n (x.take j.toNat) Z → Q (.str Z t') { s with heap := h', toks := k })
    (hs : subscripted slice false (.str Y t) (.ref s.heap.objs.size) = operate [.ref s.heap.objs.size, .str Y t] (getItem (.str Y t) (.ref s.heap.objs.size)) := by with_unfolding_all rfl)
    (ht : ∀ r, letTemporaryGo value (.str Y t) r = pure () := by intro _; with_unfolding_all rfl) :
    wpAny (model prog w) A (subscriptTail value slice (.str Y t) (.ref s.heap.objs.size)) Q E { s with heap := s.heap.push { cls := .type "slice", data := .fields #[.none, .int j uj, .none] } } := by
  refine slice_strN_ns hF hN (fun h' t' k F' N' => h h' t' k _ F' N' ⟨?_, ?_, ?_⟩) hs ht ?_
  · rw [hY.1, slice_take x j hj]
  · have := hY.2.1; rw [List.length_take]; omega
  · exact fun c hc => hY.2.2 c (List.mem_of_mem_take hc)
  · have := hY.2.1; rw [hY.len]; exact fits_line (by omega)
theorem drop_S {j : Int} {uj : Tok} (hY : Tis n x Y) (hn : n ≤ 1000000) (hj : 0 ≤ j) (hF : Fr h₀ L s.heap mm) (hN : News h₀ L s.heap news)
    (h : ∀ h' t' k Z, Fr h₀ L h' mm → News h₀ L h' news → Tis n (x.drop j.toNat) Z → Q (.str Z t') { s with heap := h', toks := k })
    (hs : subscripted slice false (.str Y t) (.ref s.heap.objs.size) = operate [.ref s.heap.objs.size, .str Y t] (getItem (.str Y t) (.ref s.heap.objs.size)) := by with_unfolding_all rfl)
    (ht : ∀ r, letTemporaryGo value (.str Y t) r = pure () := by intro _; with_unfolding_all rfl) :
    wpAny (model prog w) A (subscriptTail value slice (.str Y t) (.ref s.heap.objs.size)) Q E { s with heap := s.heap.push { cls := .type "slice", data := .fields #[.int j uj, .none, .none] } } := by
  refine slice_strN_sn hF hN (fun h' t' k F' N' => h h' t' k _ F' N' ⟨?_, ?_, ?_⟩) hs ht ?_
  · rw [hY.1, slice_drop x j hj]
  · have := hY.2.1; rw [List.length_drop]; omega
  · exact fun c hc => hY.2.2 c (List.mem_of_mem_drop hc)
  · have := hY.2.1; rw [hY.len]; exact fits_line (by omega)

theorem count_S {c : PySem.Str} (hY : Tis n x Y) (hn : n ≤ 1000000) (hc : c = ⟨#[10]⟩) (h : ∀ t' k, Q (.int ((x.count 10 : Nat) : Int) t') { s with toks := k }) : wpAny (model prog w) A (call (.builtin "str.count") [.str Y t, .str c u]) Q E s := by
  subst hc
  refine SC.count ?_
  have : Txt.count Y ⟨#[10]⟩ = ((x.count 10 : Nat) : Int) := by
    rw [count_cnt, hY.cps]
    clear h hY hn
    induction x with
    | nil => rfl
    | cons a r ih =>
      rw [cnt_cons, ih, List.count_cons]
      by_cases h : a = 10
      · subst h; simp; omega
      · simp [h]
  rw [this]
  exact h _ _
end
end Mine
end

section
open PySem PySem.W PyProof.Rows
namespace Mine
open PySem.Builtin

/-- vs are texts of the rows l -/
def Lis (l : List (List Nat)) (vs : List Value) : Prop := StrsAre vs (l.map fun y => T! y) ∧ l.length ≤ 200 ∧ ∀ r ∈ l, r.length ≤ 200 ∧ ∀ c ∈ r, c < 128
theorem Lis.len {l vs} (h : Lis l vs) : vs.length = l.length := by have := strsAre_len h.1; simpa using this

section
variable {prog : Program} {w : World} {A : Around} {E : Value → Shared → Prop} {s : Shared} {Q : Value → Shared → Prop} {n m : Nat} {x y : List Nat} {Y Z : PySem.Str} {t u : Tok} {h₀ : Heap} {L : Addr} {mm : PySem.Str → Option Value} {news : List (Addr × Obj)} {value slice : PySem.Expr}

theorem split_S {c : PySem.Str} {c0 : Nat} {sp' : List Nat} {l : List (List Nat)} (hY : Tis n x Y) (hn : n ≤ 200) (hc : c = T! (c0 :: sp')) (hsp : ∀ a ∈ c0 :: sp', a < 128) (hx : x = joinL (c0 :: sp') l) (hne : l ≠ []) (hl : ∀ r ∈ l, c0 ∉ r)
    (hb : l.length ≤ 200 ∧ ∀ r ∈ l, r.length ≤ 200 ∧ ∀ c ∈ r, c < 128) (hF : Fr h₀ L s.heap mm) (hN : News h₀ L s.heap news)
    (h : ∀ D vs h' k, Lis l vs → Fr h₀ L h' mm → News h₀ L h' ((D, listOf vs.toArray 0) :: news) → (∀ p ∈ news, p.1 < D) → Q (.ref D) { s with heap := h', toks := k }) :
    wpAny (model prog w) A (call (.builtin "str.split") [.str Y t, .str c u]) Q E s := by
  subst hc
  refine KSpl.split1 hF hN (by show ((c0 :: sp').toArray.size == 0) = false; simp) (fun D l' h' k e hi F' N' hp => ?_) ?_
  · refine h D (strValues l') h' k ⟨?_, hb⟩ F' N' hp
    have e2 : Txt.split Y (T! (c0 :: sp')) = l.map fun y => T! y := by
      rw [hY.1, hx]
      exact split_T hne hl (by rw [← hx]; exact hY.2.2) hsp
    rw [e2] at e
    rw [e] at hi
    exact hi
  · have := hY.2.1
    rw [hY.len, sizeLine_eq]; omega

theorem join_S {D : Addr} {vs : List Value} {sep : PySem.Str} {sp : List Nat} {l : List (List Nat)} (hl : s.heap.IsList D vs.toArray) (hi : Lis l vs) (hsep : sep = T! sp) (hsp : sp.length ≤ 16) (hsp8 : ∀ c ∈ sp, c < 128) (hn : (joinL sp l).length ≤ n)
    (h : ∀ Z t' k, Tis n (joinL sp l) Z → Q (.str Z t') { s with toks := k }) : wpAny (model prog w) A (call (.builtin "str.join") [.str sep t, .ref D]) Q E s := by
  refine join_T hl hi.1 hsep hsp ?_ fun t' k => h _ t' k ⟨rfl, hn, ?_⟩
  · have h1 : (l.map (·.length)).sum ≤ l.length * 200 := by
      have h3 := hi.2.2
      clear hn h
      have : ∀ l : List (List Nat), (∀ r ∈ l, r.length ≤ 200 ∧ ∀ c ∈ r, c < 128) → (l.map (·.length)).sum ≤ l.length * 200 := by
        intro l
        induction l with
        | nil => intro _; simp
        | cons a r ih =>
          intro hh
          have := ih fun q hq => hh q (List.mem_cons_of_mem _ hq)
          have := (hh a List.mem_cons_self).1
          simp only [List.map_cons, List.sum_cons, List.length_cons]
          omega
      exact this l h3
    have := hi.2.1
    omega
  · have key : ∀ l : List (List Nat), (∀ r ∈ l, ∀ c ∈ r, c < 128) → ∀ c ∈ joinL sp l, c < 128 := by
      intro l
      induction l with
      | nil => intro _ c hc; cases hc
      | cons a r ih =>
        intro hh c hc
        cases r with
        | nil => exact hh a List.mem_cons_self c hc
        | cons b r =>
          simp only [joinL, List.mem_append] at hc
          rcases hc with (hc | hc) | hc
          · exact hh a List.mem_cons_self c hc
          · exact hsp8 c hc
          · exact ih (fun q hq => hh q (List.mem_cons_of_mem _ hq)) c hc
    exact key l fun r hr => (hi.2.2 r hr).2

/-! substitutions -/
theorem fix_mem {P : Nat → Prop} (h1 : P 13) (h2 : P 10) : ∀ x : List Nat, (∀ c ∈ x, P c) → ∀ c ∈ fix x, P c := by
  intro x
  induction x using fix.induct <;> intro hx <;> simp_all [fix]
theorem quo_mem {P : Nat → Prop} (h1 : P 46) : ∀ (x : List Nat) (b : Bool), (∀ c ∈ x, P c) → ∀ c ∈ quo b x, P c
  | [], b, _, c, hc => by simp [quo] at hc
  | a :: r, b, hx, c, hc => by
    have ih := fun b => quo_mem h1 r b (fun q hq => hx q (List.mem_cons_of_mem _ hq)) c
    rw [quo] at hc
    split at hc
    · rcases List.mem_cons.mp hc with rfl | hc
      · exact h1
      · rcases List.mem_cons.mp hc with rfl | hc
        · exact h1
        · exact ih _ hc
    · rcases List.mem_cons.mp hc with rfl | hc
      · exact hx _ List.mem_cons_self
      · exact ih _ hc

theorem fr_pushed {h h' : Heap} {o : Obj} (F : Fr h₀ L h mm) (hs : Heap.SameBut h.objs.size (h.push o) h') : Fr h₀ L h' mm :=
  F.keeps fun b o' e => hs.extBut b o' (Nat.ne_of_lt (Heap.lt_size e)) (Heap.get?_push_of_some _ e)
theorem news_pushed {h h' : Heap} {o : Obj} (N : News h₀ L h news) (hs : Heap.SameBut h.objs.size (h.push o) h') : News h₀ L h' news :=
  N.grown fun b o' e => hs.extBut b o' (Nat.ne_of_lt (Heap.lt_size e)) (Heap.get?_push_of_some _ e)

theorem fix_S {p c : Addr} {repl : PySem.Str} (hY : Tis n x Y) (hn : n ≤ 500) (hr : repl = T! [13, 10]) (P : Pat h₀ p c 0 code3) (hcl : ∃ o, h₀.get? p = some o ∧ o.cls = .type "re.Pattern") (hF : Fr h₀ L s.heap mm) (hN : News h₀ L s.heap news)
    (h : ∀ Z h' k t', Fr h₀ L h' mm → News h₀ L h' news → Tis (2 * n) (fix x) Z → Q (.str Z t') { s with heap := h', toks := k }) :
    wpAny (model prog w) A (call (.builtin "re.Pattern.sub") [.ref p, .str repl u, .str Y t]) Q E s := by
  have hYl := hY.2.1
  rw [hY.1]
  obtain ⟨o, ho, hc⟩ := hcl
  refine call_fix hr (by omega) (P.keeps hF.keep) ⟨o, hF.keep _ _ ho, hc⟩ fun h' o' k t' hs => ?_
  exact h _ h' k t' (fr_pushed hF hs) (news_pushed hN hs) ⟨rfl, by have := fix_len x; omega, fix_mem (P := fun c => c < 128) (by decide) (by decide) x hY.2.2⟩
theorem quo_S {p c : Addr} {repl : PySem.Str} (hY : Tis n x Y) (hn : n ≤ 500) (hr : repl = T! [46, 46]) (P : Pat h₀ p c 0 code1) (hcl : ∃ o, h₀.get? p = some o ∧ o.cls = .type "re.Pattern") (hF : Fr h₀ L s.heap mm) (hN : News h₀ L s.heap news)
    (h : ∀ Z h' k t', Fr h₀ L h' mm → News h₀ L h' news → Tis (2 * n) (quo true x) Z → Q (.str Z t') { s with heap := h', toks := k }) :
    wpAny (model prog w) A (call (.builtin "re.Pattern.sub") [.ref p, .str repl u, .str Y t]) Q E s := by
  have hYl := hY.2.1
  rw [hY.1]
  obtain ⟨o, ho, hc⟩ := hcl
  refine call_quo hr (by omega) (P.keeps hF.keep) ⟨o, hF.keep _ _ ho, hc⟩ fun h' o' k t' hs => ?_
  exact h _ h' k t' (fr_pushed hF hs) (news_pushed hN hs) ⟨rfl, by have := quo_len x true; omega, quo_mem (P := fun c => c < 128) (by decide) x true hY.2.2⟩
theorem quo_SB {p c : Addr} {repl B : Array UInt8} (hB : Bis n x B) (hn : n ≤ 500) (hr : repl = #[46, 46]) (P : Pat h₀ p c 1 code1) (hcl : ∃ o, h₀.get? p = some o ∧ o.cls = .type "re.Pattern") (hF : Fr h₀ L s.heap mm) (hN : News h₀ L s.heap news)
    (h : ∀ Z h' k t', Fr h₀ L h' mm → News h₀ L h' news → Bis (2 * n) (quo true x) Z → Q (.bytes Z t') { s with heap := h', toks := k }) :
    wpAny (model prog w) A (call (.builtin "re.Pattern.sub") [.ref p, .bytes repl u, .bytes B t]) Q E s := by
  have hYl := hB.2.1
  rw [hB.1]
  obtain ⟨o, ho, hc⟩ := hcl
  refine call_quoB hr (by omega) (fun c hc => by have := hB.2.2 c hc; omega) (P.keeps hF.keep) ⟨o, hF.keep _ _ ho, hc⟩ fun h' o' k t' hs => ?_
  exact h _ h' k t' (fr_pushed hF hs) (news_pushed hN hs) ⟨rfl, by have := quo_len x true; omega, quo_mem (P := fun c => c < 128) (by decide) x true hB.2.2⟩
end
end Mine
end

section
open PySem PySem.W PyProof.Rows
namespace Mine
open PySem.Builtin

theorem encode_tree2 (x : PySem.Str) (t u : Tok) : «str.encode» ⟨[.str x t, .str (PySem.Str.ofString "ascii") u], []⟩ = (do ret (← _codecs.encodeRoad "str.encode" (.str x t) x (PySem.Str.ofString "ascii") none)) := by kernel_rfl
theorem road_ascii (self : Value) (x : PySem.Str) : _codecs.encodeRoad "str.encode" self x (PySem.Str.ofString "ascii") none = (do mkBytes (← _codecs.encodeNarrow "str.encode" _codecs.asciiCodec none self x)) := by kernel_rfl

theorem enc_fold : ∀ (l : List Nat) (acc : Array UInt8), (l.foldl (fun acc y => acc ++ (_codecs.asciiCodec.bytesOf y).toArray) acc) = acc ++ (l.map (·.toUInt8)).toArray
  | [], acc => by simp
  | a :: r, acc => by
    rw [List.foldl_cons, enc_fold r]
    have : (_codecs.asciiCodec.bytesOf a).toArray = #[a.toUInt8] := rfl
    rw [this]; simp
section
variable {prog : Program} {w : World} {A : Around} {E : Value → Shared → Prop} {s : Shared}
theorem narrow_S {n : Nat} {x : List Nat} {Y : PySem.Str} {self : Value} {Q : Array UInt8 → Shared → Prop} (hY : Tis n x Y) (hn : n ≤ 1000000) (h : Q (B! x) s) :
    wpAny (model prog w) A (_codecs.encodeNarrow "str.encode" _codecs.asciiCodec none self Y) Q E s := by
  have hbad : ∀ c ∈ x, _codecs.asciiCodec.bad c = false := fun c hc => by
    have := hY.2.2 c hc
    show decide (c ≥ 128) = false
    simpa using this
  have hlen := hY.len
  have hcps : Y.cps = x.toArray := by rw [hY.1]
  unfold _codecs.encodeNarrow
  refine wpAny_bind ?_
  rw [Std.Legacy.Range.forIn_eq_forIn_range']
  refine wpAny_forIn_list _ (fun rest st s' => s' = s ∧ ((rest.length = x.length ∧ st = (0, #[], {})) ∨ st = (x.length, B! x, {}))) _ ?turn ?fin _ _ ?hini
  case hini =>
    refine ⟨rfl, .inl ⟨?_, rfl⟩⟩
    simp [Std.Legacy.Range.size, hlen]
  case fin =>
    rintro st s' ⟨rfl, h2⟩
    rcases h2 with ⟨h2, rfl⟩ | rfl
    · have : x = [] := List.eq_nil_of_length_eq_zero h2.symm
      subst this
      exact wpAny_pure h
    · exact wpAny_pure h
  case turn =>
    rintro i rest st s' ⟨rfl, h2⟩
    rcases h2 with ⟨h2, rfl⟩ | rfl
    · obtain ⟨a, r, rfl⟩ : ∃ a r, x = a :: r := by
        cases x with
        | nil => simp at h2
        | cons a r => exact ⟨a, r, rfl⟩
      have e0 : Y.cps[0]? = some a := by rw [hcps]; rfl
      have hrest : Y.cps.extract 0 Y.cps.size = Y.cps := by simp
      have hnone : Array.findIdx? _codecs.asciiCodec.bad Y.cps = none := by
        rw [Array.findIdx?_eq_none_iff]
        intro c hc
        rw [hcps] at hc
        exact hbad c (by simpa using hc)
      dsimp only
      rw [if_neg (by simp), e0]
      dsimp only
      rw [if_pos (by rw [hbad a List.mem_cons_self]; rfl)]
      refine wpAny_pure ⟨rfl, .inr ?_⟩
      rw [hrest, hnone]
      have hsz : Y.cps.size = (a :: r).length := by rw [hcps]; simp
      simp only [Option.getD_none, Nat.zero_add, hrest, Prod.mk.injEq, hsz, and_true]
      refine ⟨trivial, ?_⟩
      rw [← hsz, hrest, hcps, ← Array.foldl_toList, enc_fold]
      simp
    · have e0 : Y.cps[x.length]? = none := by rw [hcps]; simp
      have hsz : (B! x).size = x.length := by simp
      have := hY.2.1
      dsimp only
      rw [if_neg (by rw [hsz, sizeLine_eq]; omega), e0]
      exact wpAny_pure (wpAny_pure h)

theorem encode_S {n : Nat} {x : List Nat} {Y : PySem.Str} {c : PySem.Str} {t u : Tok} {Q : Value → Shared → Prop} (hY : Tis n x Y) (hn : n ≤ 1000000) (hc : c = PySem.Str.ofString "ascii") (h : ∀ B t' k, Bis n x B → Q (.bytes B t') { s with toks := k }) :
    wpAny (model prog w) A (call (.builtin "str.encode") [.str Y t, .str c u]) Q E s := by
  subst hc
  refine call_meets F.slot_str_encode (typeIs_str _ _ _) F.entry_str_encode (F.args_str_encode_2 _ _) (S := fun _ R s => ∀ B t' k, Bis n x B → R (.ok (.ret (.bytes B t'))) { s with toks := k }) ?_ h
  refine .of_wp fun prog w A R s h => ?_
  rw [encode_tree2, road_ascii]
  refine wpAny_bind (wpAny_bind (narrow_S hY hn ?_))
  refine wpAny_mkBytes (wpAny_pure ⟨_, rfl, h _ _ _ ⟨rfl, hY.2.1, hY.2.2⟩⟩) ?_
  have := hY.2.1
  exact fits_line (by simp; omega)

theorem decode_tree (b : Array UInt8) (t u : Tok) : «bytes.decode» ⟨[.bytes b t, .str (PySem.Str.ofString "ascii") u], []⟩ = (if b.isEmpty = true then (do rule "bytes.decode.empty"; retStr PySem.Str.empty)
    else (mkStr (PySem.Str.ofString "utf-8") >>= fun _ => mkStr (PySem.Str.ofString "ascii") >>= fun e => mkStr (PySem.Str.ofString "bytes.decode") >>= fun d => call (.builtin "_codecs.decode.text") [.bytes b t, e, .none, d] >>= fun v => ret v)) := by kernel_rfl

theorem droad_ascii (id : String) (b : Array UInt8) : _codecs.decodeRoad id b (PySem.Str.ofString "ascii") none [] = (_codecs.runDecoder id _codecs.asciiDecoder none true b 0 [] >>= fun r => mkStr ⟨r.1⟩) := by kernel_rfl

theorem runDec_S {id : String} {n : Nat} {x : List Nat} {B : Array UInt8} {Q : Array Nat × Nat → Shared → Prop} (hB : Bis n x B) (hn : n ≤ 1000000) (h : ∀ k, Q (x.toArray, k) s) :
    wpAny (model prog w) A (_codecs.runDecoder id _codecs.asciiDecoder none true B 0 []) Q E s := by
  have hsz : B.size = x.length := by rw [hB.1]; simp
  have hl := hB.2.1
  have hget : ∀ p, p < x.length → (B.getD p 0).toNat = x.getD p 0 := by
    intro p hp
    have h1 : x[p] < 128 := hB.2.2 _ (List.getElem_mem _)
    rw [hB.1]
    simp [hp]
    omega
  unfold _codecs.runDecoder
  refine wpAny_bind ?_
  rw [Std.Legacy.Range.forIn_eq_forIn_range']
  refine wpAny_forIn_list _ (fun rest st s' => s' = s ∧ ∃ p, p + rest.length = x.length ∧ ∃ f, st = (p, (x.take p).toArray, f)) _ ?turn ?fin _ _ ?hini
  case hini =>
    refine ⟨rfl, 0, ?_, _, rfl⟩
    simp [Std.Legacy.Range.size, hsz]
  case fin =>
    rintro st s' ⟨rfl, p, hp, f, rfl⟩
    have : p = x.length := by simpa using hp
    subst this
    rw [List.take_length]
    exact wpAny_pure (h _)
  case turn =>
    rintro i rest st s' ⟨rfl, p, hp, f, rfl⟩
    have hpl : p < x.length := by simp at hp; omega
    have hc : (B.getD p 0).toNat < 128 := by
      rw [hget p hpl]
      have : x.getD p 0 = x[p] := by simp [hpl]
      rw [this]
      exact hB.2.2 _ (List.getElem_mem _)
    have hfind : _codecs.asciiDecoder.find true B p = .text [x.getD p 0] (p + 1) := by
      show (if (B.getD p 0).toNat < 128 then _codecs.Found.char (B.getD p 0).toNat (p + 1) else _) = _
      rw [if_pos hc, hget p hpl]; rfl
    dsimp only
    rw [if_neg (by rw [sizeLine_eq]; simp; omega), if_neg (by rw [hsz]; omega), hfind]
    refine wpAny_pure ⟨rfl, p + 1, by simp at hp; omega, f, ?_⟩
    rw [List.take_add_one]
    simp [hpl]

theorem meets_dtext_S {n : Nat} {x : List Nat} {B : Array UInt8} {t t1 t2 : Tok} {d : PySem.Str} (hB : Bis n x B) (hn : n ≤ 1000000) :
    Meets («_codecs.decode.text» ⟨[.bytes B t, .str (PySem.Str.ofString "ascii") t1, .none, .str d t2], []⟩) (fun _ R s => ∀ Z t' k, Tis n x Z → R (.ok (.ret (.str Z t'))) { s with toks := k }) := by
  refine .of_wp fun prog w A R s h => ?_
  show wpAny _ _ (Bytes.bytesLike _ (.bytes B t) >>= fun r => _) _ _ s
  refine wpAny_bind (wpAny_of_eq KBd.like_eq ?_)
  refine wpAny_bind (wpAny_of_eq KBd.held_eq ?_)
  show wpAny _ _ (_codecs.decodeRoad _ B (PySem.Str.ofString "ascii") none [] >>= fun v => _) _ _ s
  rw [droad_ascii]
  refine wpAny_bind (wpAny_bind (runDec_S hB hn fun k => ?_))
  refine wpAny_mkStr (wpAny_pure ⟨_, rfl, h _ _ _ ⟨rfl, hB.2.1, hB.2.2⟩⟩) ?_
  have := hB.2.1
  exact fits_line (by show x.toArray.size ≤ _; simp; omega)

theorem args_decode_2 (a b : Value) : argsOk "bytes.decode" ⟨[a, b], []⟩ := by
  unfold argsOk; kernel_rfl

theorem decode_S {n : Nat} {x : List Nat} {B : Array UInt8} {c : PySem.Str} {t u : Tok} {Q : Value → Shared → Prop} (hB : Bis n x B) (hn : n ≤ 1000000) (hc : c = PySem.Str.ofString "ascii") (h : ∀ Z t' k, Tis n x Z → Q (.str Z t') { s with toks := k }) :
    wpAny (model prog w) A (call (.builtin "bytes.decode") [.bytes B t, .str c u]) Q E s := by
  subst hc
  refine call_meets FB.slot_bytes_decode (typeIs_bytes _ _ _) FB.entry_bytes_decode (args_decode_2 _ _) (S := fun _ R s => ∀ Z t' k, Tis n x Z → R (.ok (.ret (.str Z t'))) { s with toks := k }) ?_ h
  refine .of_wp fun prog w A R s h => ?_
  rw [decode_tree]
  by_cases hem : B.isEmpty = true
  · rw [if_pos hem]
    have hx : x = [] := by
      have : B.size = 0 := by simpa using hem
      have hsz : B.size = x.length := by rw [hB.1]; simp
      exact List.eq_nil_of_length_eq_zero (by omega)
    subst hx
    refine wpAny_bind (wpAny_rule ?_)
    refine wpAny_bind (wpAny_mkStr (wpAny_pure ⟨_, rfl, h _ _ _ ⟨rfl, Nat.zero_le _, fun c hc => nomatch hc⟩⟩) (by decide))
  · rw [if_neg hem]
    refine wpAny_bind (wpAny_mkStr ?_ (by decide))
    refine wpAny_bind (wpAny_mkStr ?_ (by decide))
    refine wpAny_bind (wpAny_mkStr ?_ (by decide))
    refine wpAny_bind (call_function_meets KBd.kind_text KBd.plain_text KBd.entry_text (KBd.args_text _ _ _ _) (meets_dtext_S hB hn) fun Z t' k hZ => ?_)
    exact wpAny_pure ⟨_, rfl, h Z t' k hZ⟩
end
end Mine
end

section
open PySem PySem.W PyProof.Rows
namespace Mine

theorem tend_one {X : List Nat} {c : PySem.Str} {z : Nat} (hc : c.cps.toList = [z]) (i : Nat) : TEnd (decide ([X.getD ((i : Int)).toNat 0] = c.cps.toList)) (X.getD i 0 == z) := by
  unfold TEnd
  rw [hc, Int.toNat_natCast]
  by_cases h : X.getD i 0 = z
  · rw [h]; simp
  · have : (X.getD i 0 == z) = false := by simpa using h
    rw [this]
    exact decide_eq_false (fun e => h (by simpa using e))

section
variable {prog : Program} {w : World} {A : Around} {E : Value → Shared → Prop} {s : Shared} {Q : Value → Shared → Prop} {n m : Nat} {x y : List Nat} {Y Z : PySem.Str} {t u : Tok} {h₀ : Heap} {L : Addr} {mm : PySem.Str → Option Value} {news : List (Addr × Obj)} {value slice : PySem.Expr}
theorem add_begs {l b : Addr} {tk : Tok} {ws : List Value} {X : List Nat} (hF : Fr h₀ L s.heap mm) (hN : News h₀ L s.heap news) (hm1 : (l, listOf #[Value.int 0 tk] 0) ∈ news) (hm2 : (b, LCg.lst ws) ∈ news)
    (hj : IntsAre ws (((List.range X.length).filter fun i => X.getD i 0 == 10).map fun i : Nat => (i : Int) + 1)) (hX : X.length ≤ 1000)
    (h : ∀ D vs h', IntsAre vs (begs X) → Fr h₀ L h' mm → News h₀ L h' ((D, listOf vs.toArray 0) :: news) → (∀ p ∈ news, p.1 < D) → Q (.ref D) { s with heap := h' }) :
    wpAny (model prog w) A (binaryOp .Add (.ref l) (.ref b)) Q E s := by
  refine add_lists_ints (vs := [.int 0 tk]) (ws := ws) hF hN ⟨_, (hN _ hm1).1, rfl, _, rfl⟩ ⟨_, (hN _ hm2).1, rfl, _, rfl⟩ (.cons 0 tk .nil) hj (fun h' F' N' hi => ?_) ?_
  · exact h _ _ h' hi F' N' fun p hp => Heap.lt_size (hN p hp).1
  · have h1 := begs_len X
    have h2 := List.count_le_length (a := 10) (l := X)
    unfold begs at h1
    rw [List.length_cons] at h1
    refine fits_line ?_
    show 1 + _ ≤ _
    omega
theorem split_rows {c : PySem.Str} (hY : Tis n x Y) (hn : n ≤ 100) (hc : c = T! [10]) (hF : Fr h₀ L s.heap mm) (hN : News h₀ L s.heap news)
    (h : ∀ D vs h' k, Lis (splitL x) vs → Fr h₀ L h' mm → News h₀ L h' ((D, listOf vs.toArray 0) :: news) → (∀ p ∈ news, p.1 < D) → Q (.ref D) { s with heap := h', toks := k }) :
    wpAny (model prog w) A (call (.builtin "str.split") [.str Y t, .str c u]) Q E s := by
  have hl := hY.2.1
  refine split_S (l := splitL x) hY (by omega) hc (by simp) (join_splitL x).symm (splitL_ne x) (fun r hr h10 => (splitL_mem x r hr 10 h10).2 rfl) ⟨?_, fun r hr => ⟨?_, fun c hc => ?_⟩⟩ hF hN h
  · have := splitL_len x; have := List.count_le_length (a := 10) (l := x); omega
  · have := splitL_part_len x r hr; omega
  · exact hY.2.2 c (splitL_mem x r hr c hc).1

theorem plainAttrs_pattern : PlainAttrs "re.Pattern" :=
  ⟨⟨"object.__getattribute__", by rw [typeLookup_type, builtinLookup_eq_fast]; kernel_rfl, by decide +kernel⟩, by rw [typeLookup_type, builtinLookup_eq_fast]; kernel_rfl⟩

theorem getMethod_sub {M : Model} {K : Frag} {p : Addr} {o : Obj} {pl : Sem Bool} {Q : Value × List Value → Shared → Prop} (hF : Fr h₀ L s.heap mm) (X : K.In h₀) (hp : K.lookup p = some o) (hc : o.cls = .type "re.Pattern") (hd : o.dict = none)
    (h : Q (.builtin "re.Pattern.sub", [.ref p]) s) : wpAny M A (getMethod (.ref p) (PySem.Str.ofString "sub") pl) Q E s :=
  getMethod_builtin ⟨o, hF.keep _ _ (X _ _ hp), hc⟩ plainAttrs_pattern slot_sub type_sub (fun a e => by cases e; exact ⟨o, hF.keep _ _ (X _ _ hp), hd⟩) h

theorem pat_K {K : Frag} {h : Heap} {p c : Addr} {kind : Int} {code : Array Nat} {o oc : Obj} {a0 a1 a3 a4 : Value} {cs : Array Value} {k : Nat} (X : K.In h) (hp : K.lookup p = some o) (e1 : o.data = .fields #[a0, a1, .int 0 0, a3, a4, .ref c, .int kind 0])
    (hc : K.lookup c = some oc) (e2 : oc.data = .seq cs k) (e3 : (cs.map PySem.Builtin.Re.reRawOf).map (·.toNat) = code) : Pat h p c kind code := by
  obtain ⟨cl, d, dt, sl⟩ := o
  obtain ⟨cl', d', dt', sl'⟩ := oc
  simp only at e1 e2
  subst e1; subst e2
  exact ⟨cl, d, a0, a1, a3, a4, sl, cl', d', cs, k, sl', X _ _ hp, X _ _ hc, e3⟩
theorem cls_K {K : Frag} {h : Heap} {p : Addr} {o : Obj} (X : K.In h) (hp : K.lookup p = some o) (hc : o.cls = .type "re.Pattern") : ∃ o, h.get? p = some o ∧ o.cls = .type "re.Pattern" := ⟨o, X _ _ hp, hc⟩

theorem join_R {D : Addr} {vs : List Value} {sep : PySem.Str} {l : List (List Nat)} (hl : s.heap.IsList D vs.toArray) (hi : Lis l vs) (hsep : sep = T! [13, 10])
    (h : ∀ Z t' k, Tis 50000 (joinL [13, 10] l) Z → Q (.str Z t') { s with toks := k }) : wpAny (model prog w) A (call (.builtin "str.join") [.str sep t, .ref D]) Q E s := by
  refine join_S hl hi hsep (by decide) (by decide) ?_ h
  have h0 := joinL_len [13, 10] l
  have key : ∀ l : List (List Nat), (∀ r ∈ l, r.length ≤ 200 ∧ ∀ c ∈ r, c < 128) → (l.map (·.length)).sum ≤ l.length * 200 := by
    intro l
    induction l with
    | nil => intro _; simp
    | cons a r ih =>
      intro hh
      have := ih fun q hq => hh q (List.mem_cons_of_mem _ hq)
      have := (hh a List.mem_cons_self).1
      simp only [List.map_cons, List.sum_cons, List.length_cons]
      omega
  have h1 := key l hi.2.2
  have h2 := hi.2.1
  have : ([13, 10] : List Nat).length = 2 := rfl
  rw [this] at h0
  omega
end

theorem compEnd_S {h₀ : Heap} {L I C D : Addr} {m : PySem.Str → Option Value} {s₁ s' : Shared} {oI oC oD : Obj} {S : List (Addr × Obj) → Prop} {rest : Value → List (Addr × Obj) → Prop} {y : Value} {news' : List (Addr × Obj)}
    (e1 : s'.gens = s₁.gens) (e2 : s'.drawn = s₁.drawn) (e3 : s'.os = s₁.os) (F : Fr h₀ L s'.heap m) (N : News h₀ L s'.heap ((I, oI) :: (C, oC) :: (D, oD) :: news')) (off : LCg.Off3 I C D news') (hS : S news') (r : rest y news') :
    LCg.CompEnd h₀ L m s₁ I oI C oC D oD S rest y s' := by
  obtain ⟨hp, g, d, tk, os⟩ := s'
  simp only at e1 e2 e3
  subst e1; subst e2; subst e3
  exact ⟨hp, tk, news', rfl, F, N, off, hS, r⟩
end Mine
end

section
open PySem PySem.W PyProof.Rows
namespace Mine

/-- a text of these signs -/
def IsT (z : List Nat) (v : Value) : Prop := ∃ Z t, v = .str Z t ∧ Tis 200 z Z
theorem IsT.of {n z Z t} (h : Tis n z Z) (hn : n ≤ 200) : IsT z (.str Z t) := ⟨Z, t, rfl, h.1, Nat.le_trans h.2.1 hn, h.2.2⟩

theorem lis_at {l : List (List Nat)} {vs : List Value} (h : Lis l vs) (i : Nat) (v : Value) (hv : vs.toArray[i]? = some v) : ∃ Y t, l[i]? = some (l.getD i []) ∧ l.getD i [] ∈ l ∧ v = .str Y t ∧ Tis 200 (l.getD i []) Y := by
  have key : ∀ (l : List (List Nat)) (vs : List Value), StrsAre vs (l.map fun y => T! y) → ∀ (i : Nat) (v : Value), vs[i]? = some v → ∃ r t, l[i]? = some r ∧ v = Value.str (T! r) t := by
    intro l
    induction l with
    | nil => intro vs hs i v hv; cases hs; simp at hv
    | cons a r ih =>
      intro vs hs i v hv
      cases hs with
      | cons y t hs' =>
        cases i with
        | zero => 
          simp at hv
          exact ⟨a, t, rfl, hv.symm⟩
        | succ i => exact ih _ hs' i v (by simpa using hv)
  obtain ⟨r, t, h1, h2⟩ := key l vs h.1 i v (by simpa using hv)
  have h3 : l.getD i [] = r := by simp [List.getD, h1]
  have hm : r ∈ l := List.mem_of_getElem? h1
  rw [h3]
  exact ⟨_, t, h1, hm, h2, rfl, (h.2.2 r hm).1, (h.2.2 r hm).2⟩

section
variable {prog : Program} {w : World} {A : Around} {h₀ : Heap} {L : Addr} {m : Str → Option Value} {env : Env} {ct elt : Expr} {x : Str} {scope : Scope} {cl : List (Str × Addr)} {s : Shared} {S : List (Addr × Obj) → Prop} {P : Nat → Value → Prop} {Fin : List Value → List (Addr × Obj) → Prop} {news : List (Addr × Obj)}
theorem made_lis {l : List (List Nat)} {f : List Nat → List Nat} {ys : List Value} (hl : l.length ≤ 200) (h : Made (fun i v => IsT (f (l.getD i [])) v) (List.range l.length) ys) : Lis (l.map f) ys := by
  have h1 := Made.strs (g := fun i => T! (f (l.getD i []))) h (fun i _ v hv => by
    obtain ⟨Z, t, rfl, hZ⟩ := hv
    exact ⟨t, by rw [hZ.1]⟩)
  have e : (List.range l.length).map (fun i => T! (f (l.getD i []))) = (l.map f).map fun y => T! y := by
    refine List.ext_getElem (by simp) fun i h1 h2 => ?_
    simp at h1
    simp [List.getD, h1]
  rw [e] at h1
  refine ⟨h1, by simpa using hl, ?_⟩
  intro r hr
  obtain ⟨a, ha, rfl⟩ := List.mem_map.mp hr
  obtain ⟨i, hi, rfl⟩ := List.mem_iff_getElem.mp ha
  have key : ∀ (is : List Nat) (vs : List Value), Made (fun i v => IsT (f (l.getD i [])) v) is vs → ∀ i ∈ is, (f (l.getD i [])).length ≤ 200 ∧ ∀ c ∈ f (l.getD i []), c < 128 := by
    intro is vs hm
    induction hm with
    | nil => intro i hi; cases hi
    | cons hv _ ih =>
      intro j hj
      rcases List.mem_cons.mp hj with rfl | hj
      · obtain ⟨Z, t, _, hZ⟩ := hv
        exact ⟨hZ.2.1, hZ.2.2⟩
      · exact ih j hj
  have := key _ _ h i (by simpa using hi)
  simpa [List.getD, hi] using this

theorem rest_rows {l : List (List Nat)} {vs : List Value} (f : List Nat → List Nat) (hL : Lis l vs) (hB : ∀ r ∈ l, r.length ≤ 100)
    (turn : ∀ r Y t I oI C oC D m₂ ys h tk (E' : Value → Shared → Prop), r ∈ l → Tis 100 r Y → LCg.NsObj oC m₂ → m₂ x = some (.str Y t) → Fr h₀ L h m → News h₀ L h ((I, oI) :: (C, oC) :: (D, LCg.lst ys) :: news) → LCg.Off3 I C D news → ((@Ne Nat I C) ∧ (@Ne Nat I D) ∧ (@Ne Nat C D)) →
      wpAny (model prog w) A (eval elt (compEnvC scope cl C env)) (LCg.CompEnd h₀ L m { s with heap := h, toks := tk } I oI C oC D (LCg.lst ys) S (fun y news' => news' = news ∧ IsT (f r) y)) E' { s with heap := h, toks := tk })
    (fin : ∀ ys, Lis (l.map f) ys → Fin ys news) : LCg.CompRest prog w A h₀ L m env elt x scope cl s S (fun i v => vs.toArray[i]? = some v) Fin vs.toArray.size 0 [] news := by
  have hn : vs.toArray.size = l.length := by rw [List.size_toArray]; exact hL.len
  rw [hn]
  refine rest_U (fun i v => IsT (f (l.getD i [])) v) ?_ fun ys hy => fin ys (made_lis hL.2.1 hy)
  intro i v I oI C oC D m₂ ys h tk E' hi hv hC hx F N off ne
  obtain ⟨Y, t, h1, h2, rfl, h3⟩ := lis_at hL i v hv
  exact turn _ Y t I oI C oC D m₂ ys h tk E' h2 ⟨h3.1, hB _ h2, h3.2.2⟩ hC hx F N off ne
end

theorem point_cps : (Str.ofString ".").cps.toList = [46] := by decide +kernel
theorem one_nat : Int.toNat 1 = 1 := rfl
theorem isT_dot {n : Nat} {r : List Nat} {W : PySem.Str} {t : Tok} (hW : Tis n ((Str.ofString ".").cps.toList ++ r) W) (hn : n ≤ 200) (hc : List.take (Int.toNat 1) r = (Str.ofString ".").cps.toList) : IsT (dot r) (.str W t) := by
  have : dot r = (Str.ofString ".").cps.toList ++ r := by
    rw [point_cps, one_nat] at hc
    rw [point_cps]
    unfold dot
    rw [if_pos hc]; rfl
  rw [this]
  exact IsT.of hW hn
theorem isT_dotn {n : Nat} {r : List Nat} {W : PySem.Str} {t : Tok} (hW : Tis n r W) (hn : n ≤ 200) (hc : ¬ List.take (Int.toNat 1) r = (Str.ofString ".").cps.toList) : IsT (dot r) (.str W t) := by
  have : dot r = r := by
    rw [point_cps, one_nat] at hc
    unfold dot
    rw [if_neg hc]
  rw [this]
  exact IsT.of hW hn
theorem isT_undot {n : Nat} {r : List Nat} {W : PySem.Str} {t : Tok} (hW : Tis n (List.drop (Int.toNat 1) r) W) (hn : n ≤ 200) (hc : List.take (Int.toNat 1) r = (Str.ofString ".").cps.toList) : IsT (undot r) (.str W t) := by
  have : undot r = List.drop (Int.toNat 1) r := by
    rw [point_cps, one_nat] at hc
    unfold undot
    rw [if_pos hc]; rfl
  rw [this]
  exact IsT.of hW hn
theorem isT_undotn {n : Nat} {r : List Nat} {W : PySem.Str} {t : Tok} (hW : Tis n r W) (hn : n ≤ 200) (hc : ¬ List.take (Int.toNat 1) r = (Str.ofString ".").cps.toList) : IsT (undot r) (.str W t) := by
  have : undot r = r := by
    rw [point_cps, one_nat] at hc
    unfold undot
    rw [if_neg hc]
  rw [this]
  exact IsT.of hW hn
end Mine
end

section
open PySem PySem.W PyProof.Rows
namespace Mine
section
variable {prog : Program} {w : World} {A : Around} {E : Value → Shared → Prop} {s : Shared} {Q : Value → Shared → Prop} {h₀ : Heap} {L : Addr} {mm : PySem.Str → Option Value} {news : List (Addr × Obj)} {value slice : PySem.Expr} {vs : List Value} {bs : List Int}
theorem len_L {b : Addr} (hl : s.heap.IsList b vs.toArray) (hn : vs.length ≤ 100000) (h : ∀ t k, Q (.int vs.length t) { s with toks := k }) : wpAny (model prog w) A (call (.builtin "len") [.ref b]) Q E s := by
  refine PySem.Calls.call_len_list hl (by simp; omega) ?_
  have : vs.toArray.size = vs.length := by simp
  rw [this]
  exact h _ _
theorem item_L {l : Addr} {k : Int} {u : Tok} (hl : s.heap.IsList l vs.toArray) (hi : IntsAre vs bs) (h0 : 0 ≤ k) (h1 : k < bs.length) (hn : bs.length ≤ 100000) (h : ∀ t, Q (.int (bs.getD k.toNat 0) t) s)
    (hs : subscripted slice false (.ref l) (.int k u) = operate [.ref l, .int k u] (getItem (.ref l) (.int k u)) := by with_unfolding_all rfl) (hg : ∀ r, letTemporaryGo value (.ref l) r = pure () := by intro _; with_unfolding_all rfl) :
    wpAny (model prog w) A (subscriptTail value slice (.ref l) (.int k u)) Q E s :=
  item_list_ints hl hi h0 h1 (by omega) h hs hg

/-- what stands between two turns of the search -/
def BisJ (lt : Int → Int → Prop) (news : List (Addr × Obj)) (b : Addr) (bs : List Int) (k : Int) (tk : Tok) (n : Nat) (m : PySem.Str → Option Value) (news₁ : List (Addr × Obj)) : Prop :=
  news₁ = news ∧ ∃ lo hi t u, m "lo" = some (.int lo t) ∧ m "hi" = some (.int hi u) ∧ m "a" = some (.ref b) ∧ m "x" = some (.int k tk) ∧ 0 ≤ lo ∧ lo ≤ hi ∧ hi ≤ (bs.length : Int) ∧
    (∀ j : Nat, (j : Int) < lo → lt (bs.getD j 0) k) ∧ (∀ j : Nat, hi ≤ (j : Int) → j < bs.length → ¬ lt (bs.getD j 0) k) ∧ n = (hi - lo).toNat
end
theorem look_miss {x y : PySem.Str} {v w : Value} {e : Option Value} (h : x ≠ y) (h2 : e = some v) : (if x = y then some w else e) = some v := by rw [if_neg h]; exact h2
theorem look_hit {y : PySem.Str} {w : Value} {e : Option Value} : (if y = y then some w else e) = some w := if_pos rfl

theorem mid_bounds {lo hi : Int} (c1 : 0 ≤ lo) (a : lo < hi) : lo ≤ (lo + hi).fdiv 2 ∧ (lo + hi).fdiv 2 < hi := by
  rw [Int.fdiv_eq_ediv_of_nonneg _ (by decide)]; omega
theorem left_lo {bs : List Int} {lo hi k : Int} (hs : ∀ i j : Nat, i ≤ j → j < bs.length → bs.getD i 0 ≤ bs.getD j 0) (c1 : 0 ≤ lo) (a : lo < hi) (c3 : hi ≤ (bs.length : Int)) (h : bs.getD ((lo + hi).fdiv 2).toNat 0 < k) :
    ∀ j : Nat, (j : Int) < (lo + hi).fdiv 2 + 1 → (fun a c : Int => a < c) (bs.getD j 0) k := by
  intro j hj
  have hm := mid_bounds c1 a
  have := hs j ((lo + hi).fdiv 2).toNat (by omega) (by omega)
  show bs.getD j 0 < k
  omega
theorem left_hi {bs : List Int} {lo hi k : Int} (hs : ∀ i j : Nat, i ≤ j → j < bs.length → bs.getD i 0 ≤ bs.getD j 0) (c1 : 0 ≤ lo) (a : lo < hi) (c3 : hi ≤ (bs.length : Int)) (h : ¬ bs.getD ((lo + hi).fdiv 2).toNat 0 < k) :
    ∀ j : Nat, (lo + hi).fdiv 2 ≤ (j : Int) → j < bs.length → ¬ (fun a c : Int => a < c) (bs.getD j 0) k := by
  intro j hj hl
  have hm := mid_bounds c1 a
  have := hs ((lo + hi).fdiv 2).toNat j (by omega) hl
  show ¬ bs.getD j 0 < k
  omega
theorem right_lo {bs : List Int} {lo hi k : Int} (hs : ∀ i j : Nat, i ≤ j → j < bs.length → bs.getD i 0 ≤ bs.getD j 0) (c1 : 0 ≤ lo) (a : lo < hi) (c3 : hi ≤ (bs.length : Int)) (h : ¬ k < bs.getD ((lo + hi).fdiv 2).toNat 0) :
    ∀ j : Nat, (j : Int) < (lo + hi).fdiv 2 + 1 → (fun a c : Int => a ≤ c) (bs.getD j 0) k := by
  intro j hj
  have hm := mid_bounds c1 a
  have := hs j ((lo + hi).fdiv 2).toNat (by omega) (by omega)
  show bs.getD j 0 ≤ k
  omega
theorem right_hi {bs : List Int} {lo hi k : Int} (hs : ∀ i j : Nat, i ≤ j → j < bs.length → bs.getD i 0 ≤ bs.getD j 0) (c1 : 0 ≤ lo) (a : lo < hi) (c3 : hi ≤ (bs.length : Int)) (h : k < bs.getD ((lo + hi).fdiv 2).toNat 0) :
    ∀ j : Nat, (lo + hi).fdiv 2 ≤ (j : Int) → j < bs.length → ¬ (fun a c : Int => a ≤ c) (bs.getD j 0) k := by
  intro j hj hl
  have hm := mid_bounds c1 a
  have := hs ((lo + hi).fdiv 2).toNat j (by omega) hl
  show ¬ bs.getD j 0 ≤ k
  omega
theorem whileStep_S {h₀ : Heap} {L : Addr} {s s' : Shared} {J : Nat → (Str → Option Value) → List (Addr × Obj) → Prop} {n n' : Nat} {m₂ : Str → Option Value} {news₂ : List (Addr × Obj)}
    (e1 : s'.gens = s.gens) (e2 : s'.drawn = s.drawn) (e3 : s'.os = s.os) (F : Fr h₀ L s'.heap m₂) (N : News h₀ L s'.heap news₂) (hn : n' < n) (hJ : J n' m₂ news₂) : WhileStep h₀ L s J n .next s' := by
  obtain ⟨hp, g, d, tk, os⟩ := s'
  simp only at e1 e2 e3
  subst e1; subst e2; subst e3
  exact WhileStep.intro F N hn hJ
end Mine
end

section
open PySem PySem.W PyProof.Rows
namespace Mine
theorem begs_short {X : List Nat} (h : X.length ≤ 20) : (begs X).length ≤ 21 ∧ 1 ≤ (begs X).length := by
  have h1 := begs_len X
  have h2 := List.count_le_length (a := 10) (l := X)
  omega
theorem begs_sorted (X : List Nat) : ∀ i j : Nat, i ≤ j → j < (begs X).length → (begs X).getD i 0 ≤ (begs X).getD j 0 := by
  have hp : (begs X).Pairwise (fun a b : Int => a ≤ b) := by
    unfold begs
    rw [List.pairwise_cons]
    refine ⟨fun a ha => ?_, ?_⟩
    · obtain ⟨k, _, rfl⟩ := List.mem_map.mp ha
      omega
    · rw [List.pairwise_map]
      refine List.Pairwise.filter _ ?_
      refine List.Pairwise.imp ?_ List.pairwise_lt_range
      intro a b h
      omega
  intro i j hij hj
  have hi : i < (begs X).length := by omega
  rw [List.getD_eq_getElem?_getD, List.getD_eq_getElem?_getD, List.getElem?_eq_getElem hi, List.getElem?_eq_getElem hj]
  show (begs X)[i] ≤ (begs X)[j]
  by_cases h : i = j
  · subst h; exact Int.le_refl _
  · exact List.pairwise_iff_getElem.mp hp i j hi hj (by omega)

/-- where the search stops, a beginning that is k stands there or nowhere -/
theorem bl_beg {X : List Nat} {i : Nat} {z q : Int} (hi : i < X.length) (h0 : 0 ≤ z) (h1 : z ≤ ((begs X).length : Int)) (h2 : ∀ j : Nat, (j : Int) < z → (begs X).getD j 0 < (i : Int)) (h3 : ∀ j : Nat, z ≤ (j : Int) → j < (begs X).length → (i : Int) ≤ (begs X).getD j 0)
    (hq : q = min z (((begs X).length : Int) - 1)) : ((begs X).getD q.toNat 0 = (i : Int)) ↔ beg X i = true := by
  have hpos : 1 ≤ (begs X).length := by have := begs_len X; omega
  constructor
  · intro e
    rw [← mem_begs X i hi, ← e]
    have hl : q.toNat < (begs X).length := by omega
    rw [List.getD_eq_getElem?_getD, List.getElem?_eq_getElem hl]
    exact List.getElem_mem _
  · intro hb
    have hm := (mem_begs X i hi).mpr hb
    obtain ⟨j, hj, e⟩ := List.mem_iff_getElem.mp hm
    have ej : (begs X).getD j 0 = (i : Int) := by rw [List.getD_eq_getElem?_getD, List.getElem?_eq_getElem hj]; exact e
    have hzj : z ≤ (j : Int) := by
      rcases Int.lt_or_le (j : Int) z with h | h
      · have := h2 j h; omega
      · exact h
    have hqz : q = z := by omega
    have h4 := h3 q.toNat (by omega) (by omega)
    have h5 := begs_sorted X q.toNat j (by omega) hj
    omega

theorem tend_and_f {X : List Nat} {i : Nat} {c : PySem.Str} {b : Bool} (hc : c.cps.toList = [46]) (h : ¬ [X.getD ((i : Int)).toNat 0] = c.cps.toList) : TEnd false (X.getD i 0 == 46 && b) := by
  unfold TEnd
  rw [hc, Int.toNat_natCast] at h
  have : (X.getD i 0 == 46) = false := by
    by_cases q : X.getD i 0 = 46
    · exact absurd (by rw [q]) h
    · simpa using q
  rw [this]; rfl
theorem tend_and_t {X : List Nat} {i : Nat} {c : PySem.Str} {a b : Bool} (hc : c.cps.toList = [46]) (h : [X.getD ((i : Int)).toNat 0] = c.cps.toList) (hab : a = b) : TEnd a (X.getD i 0 == 46 && b) := by
  unfold TEnd
  rw [hc, Int.toNat_natCast] at h
  have : X.getD i 0 = 46 := by simpa using h
  rw [this, hab]; rfl

/-- the rows up to a place -/
theorem br_row {X : List Nat} {i : Nat} {z : Int} (h0 : 0 ≤ z) (h1 : z ≤ ((begs X).length : Int)) (h2 : ∀ j : Nat, (j : Int) < z → (begs X).getD j 0 ≤ (i : Int)) (h3 : ∀ j : Nat, z ≤ (j : Int) → j < (begs X).length → (i : Int) < (begs X).getD j 0) :
    z = (((X.take i).count 10 : Nat) : Int) + 1 := by
  have h := part_count (bs := begs X) (p := fun b => decide (b ≤ (i : Int))) (i := z.toNat) (by omega) (fun j hj => by simpa using h2 j (by omega)) (fun j hj hl => by have := h3 j (by omega) hl; simpa using this)
  rw [begs_le] at h
  omega

theorem tend_bl_t {X : List Nat} {i vl : Nat} {z : Int} {c : PySem.Str} (hc : c.cps.toList = [46]) (h : [X.getD ((i : Int)).toNat 0] = c.cps.toList) (hv : vl = (begs X).length) (hi : i < X.length) (h0 : 0 ≤ z) (h1 : z ≤ ((begs X).length : Int)) (h2 : ∀ j : Nat, (j : Int) < z → (begs X).getD j 0 < (i : Int)) (h3 : ∀ j : Nat, z ≤ (j : Int) → j < (begs X).length → (i : Int) ≤ (begs X).getD j 0)
    (e : (begs X).getD (if (vl : Int) - 1 < z then (vl : Int) - 1 else z).toNat 0 = (i : Int)) : TEnd true (X.getD i 0 == 46 && beg X i) :=
  tend_and_t hc h ((bl_beg hi h0 h1 h2 h3 (by subst hv; split <;> omega)).mp e).symm
theorem tend_bl_f {X : List Nat} {i vl : Nat} {z : Int} {c : PySem.Str} (hc : c.cps.toList = [46]) (h : [X.getD ((i : Int)).toNat 0] = c.cps.toList) (hv : vl = (begs X).length) (hi : i < X.length) (h0 : 0 ≤ z) (h1 : z ≤ ((begs X).length : Int)) (h2 : ∀ j : Nat, (j : Int) < z → (begs X).getD j 0 < (i : Int)) (h3 : ∀ j : Nat, z ≤ (j : Int) → j < (begs X).length → (i : Int) ≤ (begs X).getD j 0)
    (e : (begs X).getD (if (vl : Int) - 1 < z then (vl : Int) - 1 else z).toNat 0 ≠ (i : Int)) : TEnd false (X.getD i 0 == 46 && beg X i) := by
  refine tend_and_t hc h ?_
  cases hb : beg X i with
  | false => rfl
  | true => exact absurd ((bl_beg hi h0 h1 h2 h3 (by subst hv; split <;> omega)).mpr hb) e

section
variable {prog : Program} {w : World} {A : Around} {E : Value → Shared → Prop} {s : Shared} {Q : Value → Shared → Prop} {n m : Nat} {x y : List Nat} {Y : PySem.Str} {B C : Array UInt8} {t u : Tok}
theorem noRefS {h : Heap} : ∀ a, Value.str Y t = .ref a → ∃ o, h.get? a = some o ∧ o.dict = none := fun _ e => nomatch e
theorem gm_str {M : Model} {pl : Sem Bool} {Q : Value × List Value → Shared → Prop} {name : PySem.Str} {id : String} (v : Value) (hT : s.TypeIs v "str") (slot : Slot "str" name id) (ty : typeOf (.builtin id) = pure (.type "method_descriptor"))
    (hd : ∀ a, v = .ref a → ∃ o, s.heap.get? a = some o ∧ o.dict = none) (h : Q (.builtin id, [v]) s) : wpAny M A (getMethod v name pl) Q E s :=
  getMethod_builtin hT PySem.F.plainAttrs_str slot ty hd h
theorem getMethod_encode {M : Model} {pl : Sem Bool} {Q : Value × List Value → Shared → Prop} (h : Q (.builtin "str.encode", [.str Y t]) s) : wpAny M A (getMethod (.str Y t) "encode" pl) Q E s := by
  with_reducible exact gm_str (.str Y t) (typeIs_str _ _ _) PySem.F.slot_str_encode PySem.F.type_str_encode noRefS h
theorem getMethod_decode {M : Model} {pl : Sem Bool} {Q : Value × List Value → Shared → Prop} (h : Q (.builtin "bytes.decode", [.bytes B t]) s) : wpAny M A (getMethod (.bytes B t) "decode" pl) Q E s := KBd.method h
theorem getMethod_count {M : Model} {pl : Sem Bool} {Q : Value × List Value → Shared → Prop} (h : Q (.builtin "str.count", [.str Y t]) s) : wpAny M A (getMethod (.str Y t) "count" pl) Q E s := by
  with_reducible exact gm_str (.str Y t) (typeIs_str _ _ _) PySem.F.slot_str_count PySem.F.type_str_count noRefS h
theorem ne_B (hB : Bis n x B) (hC : Bis m x C) (h : Q (.bool false) s) : wpAny (model prog w) A (compareOp .NotEq (.bytes B t) (.bytes C u)) Q E s := by
  refine ne_bytes ?_
  rw [hB.1, hC.1]
  simpa using h
end
theorem told_len {X : List Nat} {a b : Nat} (h13 : 13 ∉ X) (ha : a = X.count 10 + 1) (hb : b = ((List.range X.length).filter fun i => X.getD i 0 == 46 && beg X i).length) : (quo true (fix X)).length + 1 = X.length + a + b := by
  rw [law_len X true h13, law_points, ha, hb]; omega
end Mine
end

section
open PySem PySem.W PyProof.Rows PyProof.V PySem.Spec
namespace Mine
theorem ks_canLayAll0 : ∀ ns : List PySem.Str, (∀ y ∈ ns, PyData.strOk y = true) → PyData.canLayAll0 (ns.map PyData.str) = true
  | [], _ => rfl
  | a :: r, h => by simp [PyData.canLayAll0, PyData.canLay0, ks_canLayAll0 r (fun y hy => h y (List.mem_cons_of_mem _ hy)), h a List.mem_cons_self]
theorem ks_depthAll : ∀ ns : List PySem.Str, PyData.depthAll (ns.map PyData.str) = 0
  | [] => rfl
  | _ :: r => by simp [PyData.depthAll, PyData.depth, ks_depthAll r]
theorem ks_shaped (ns : List PySem.Str) (h : ∀ y ∈ ns, PyData.strOk y = true) : SeqAt.shaped (.list (ns.map PyData.str)) = true := by
  simp [SeqAt.shaped, PyData.canLay0, PyData.depth, ks_canLayAll0 ns h, ks_depthAll]
theorem ks_sameAll : ∀ ns : List PySem.Str, PySem.Spec.sameAll (ns.map PyData.str) (ns.map PyData.str) = true
  | [] => by simp [PySem.Spec.sameAll]
  | a :: r => by simp [PySem.Spec.sameAll, PySem.Spec.same, ks_sameAll r]

section
variable {prog : Program} {w : World} {A : Around} {E : Value → Shared → Prop} {s : Shared} {a b : Addr} {xs ys : List Value} {l m : List (List Nat)} {Q : Value → Shared → Prop} {t : Tok} {X : List Nat}
theorem ne_Lis (ha : s.heap.IsList a xs.toArray) (hb : s.heap.IsList b ys.toArray) (hi : Lis l xs) (hj : Lis m ys) (hu : A.units + 64 < cLine) (e : l = m) (h : Q (.bool false) s) :
    wpAny (model prog w) A (compareOp .NotEq (.ref a) (.ref b)) Q E s := by
  subst e
  have hok : ∀ y ∈ l.map fun y => T! y, PyData.strOk y = true := fun y hy => by
    obtain ⟨r, hr, rfl⟩ := List.mem_map.mp hy
    have h2 := (hi.2.2 r hr).2
    show (r.toArray.all fun c => decide (c < 0x110000)) = true
    rw [← Array.all_toList, List.all_eq_true]
    intro c hc
    have := h2 c (by simpa using hc)
    simpa using (by omega : c < 0x110000)
  refine ne_dataH_same (reads_newData ha hi.1.carried) (reads_newData hb hj.1.carried) (ks_shaped _ hok) (ks_shaped _ hok) hu (SeqAt.noMix_of_shape (.list .str) rfl _ _ (list_map_has fun _ => rfl) (list_map_has fun _ => rfl)) ?_
  have : PySem.Spec.same (.list ((l.map fun y => T! y).map PyData.str)) (.list ((l.map fun y => T! y).map PyData.str)) = true := by
    simp only [PySem.Spec.same]; exact ks_sameAll _
  rw [this]
  exact h
theorem in_Lis {c : PySem.Str} (ha : s.heap.IsList a xs.toArray) (hi : Lis l xs) (hc : c = T! [46]) (hn : [46] ∉ l) (h : Q (.bool false) s) : wpAny (model prog w) A (compareOp .In (.str c t) (.ref a)) Q E s := by
  subst hc
  refine in_list_strs ha hi.1 ?_
  have : ((l.map fun y => T! y).any fun y => y == T! [46]) = false := by
    rw [List.any_eq_false]
    intro y hy
    obtain ⟨r, hr, rfl⟩ := List.mem_map.mp hy
    intro e
    have e2 : T! r = T! [46] := eq_of_beq e
    have e3 : r = [46] := by
      have := congrArg (fun z : PySem.Str => z.cps.toList) e2
      simpa using this
    exact hn (e3 ▸ hr)
  rw [this]
  exact h
theorem eq_nil_L {ns : List Int} (ha : s.heap.IsList a xs.toArray) (hb : s.heap.IsList b (#[] : Array Value)) (hi : IntsAre xs ns) (hn : ns = []) (hu : A.units + 64 < cLine) (h : Q (.bool true) s) :
    wpAny (model prog w) A (compareOp .Eq (.ref a) (.ref b)) Q E s := by
  subst hn
  exact ke_eq_ints (ys := []) ha hb hi .nil hu (by simpa using h)

theorem dot_mem {r : List Nat} {c : Nat} (h : c ∈ dot r) : c = 46 ∨ c ∈ r := by
  unfold dot at h
  split at h
  · rcases List.mem_cons.mp h with h | h
    · exact .inl h
    · exact .inr h
  · exact .inr h
theorem dot_len (r : List Nat) : (dot r).length ≤ r.length + 1 := by
  unfold dot; split <;> simp
theorem no_point (l : List (List Nat)) : [46] ∉ l.map dot := by
  intro h
  obtain ⟨r, _, e⟩ := List.mem_map.mp h
  exact dot_ne r e
theorem undots (l : List (List Nat)) : (l.map dot).map undot = l := by
  rw [List.map_map]
  have : (undot ∘ dot) = id := by funext r; exact undot_dot r
  rw [this, List.map_id]

variable {n : Nat} {Y Z : PySem.Str} {u : Tok} {h₀ : Heap} {L : Addr} {mm : PySem.Str → Option Value} {news : List (Addr × Obj)}
theorem split_told {c : PySem.Str} (hX : Tis 20 X Z) (hX13 : 13 ∉ X) (hY : Tis n (quo true (fix X)) Y) (hn : n ≤ 200) (hc : c = T! [13, 10]) (hF : Fr h₀ L s.heap mm) (hN : News h₀ L s.heap news)
    (h : ∀ D vs h' k, Lis ((splitL X).map dot) vs → Fr h₀ L h' mm → News h₀ L h' ((D, listOf vs.toArray 0) :: news) → (∀ p ∈ news, p.1 < D) → Q (.ref D) { s with heap := h', toks := k }) :
    wpAny (model prog w) A (call (.builtin "str.split") [.str Y t, .str c u]) Q E s := by
  have hXl := hX.2.1
  refine split_S (l := (splitL X).map dot) hY hn hc (by simp) (law_told X hX13) (by simpa using splitL_ne X) (fun r hr h13 => ?_) ⟨?_, fun r hr => ?_⟩ hF hN h
  · obtain ⟨r0, hr0, rfl⟩ := List.mem_map.mp hr
    rcases dot_mem h13 with h | h
    · cases h
    · exact hX13 (splitL_mem X r0 hr0 13 h).1
  · have := splitL_len X; have := List.count_le_length (a := 10) (l := X); rw [List.length_map]; omega
  · obtain ⟨r0, hr0, rfl⟩ := List.mem_map.mp hr
    refine ⟨?_, fun c hc => ?_⟩
    · have := dot_len r0; have := splitL_part_len X r0 hr0; omega
    · rcases dot_mem hc with h | h
      · omega
      · exact hX.2.2 c (splitL_mem X r0 hr0 c h).1
end

theorem ne_I {prog : Program} {w : World} {A : Around} {E : Value → Shared → Prop} {s : Shared} {Q : Value → Shared → Prop} {i j : Int} {t u : Tok} (e : i = j) (h : Q (.bool false) s) : wpAny (model prog w) A (compareOp .NotEq (.int i t) (.int j u)) Q E s := by
  subst e
  refine ne_int ?_
  simpa using h

theorem tend_br {X : List Nat} {i : Nat} {z : Int} (h0 : 0 ≤ z) (h1 : z ≤ ((begs X).length : Int)) (h2 : ∀ j : Nat, (j : Int) < z → (begs X).getD j 0 ≤ (i : Int)) (h3 : ∀ j : Nat, z ≤ (j : Int) → j < (begs X).length → (i : Int) < (begs X).getD j 0) :
    TEnd (z != (((X.take ((i : Int)).toNat).count 10 : Nat) : Int) + 1) false := by
  have e := br_row h0 h1 h2 h3
  unfold TEnd
  rw [Int.toNat_natCast, e]
  simp
theorem no_turns {n : Nat} {g : Nat → Int} : ((List.range n).filter fun _ => false).map g = [] := by simp
end Mine
end

open PySem PySem.W PyProof.Rows
set_option maxHeartbeats 8000000 in
open_top Mine.hd for PySem.Challenge.rw_gc0004_01


section
open PySem PySem.W PyProof.Rows
namespace Mine
def Halt (p : Prop) : Prop := p
theorem halt {p : Prop} (h : Halt p) : p := h
end Mine
open Mine

local macro_rules | `(tactic| walk_at "exec While Compare cons nil") => `(tactic| (refine halt ?_))

local macro_rules | `(tactic| walk_at "call builtin:len") => `(tactic| (k_here; (with_reducible show wpAny _ _ (call (Value.builtin "len") [Value.ref _]) _ _ _); k_dflt (refine len_L (News.isList (by k_asm) (by with_reducible assumption)) (by omega) ?_); intro _ _))
local macro_rules | `(tactic| walk_at "subscriptTail Name Name ref int") => `(tactic| (k_here; k_dflt (refine item_L (News.isList (by k_asm) (by with_reducible assumption)) (by with_reducible assumption) (by omega) (by omega) (by omega) ?_); intro _))

local macro_rules | `(tactic| walk_at "eval Name") => `(tactic| (k_here; (with_reducible show wpAny _ _ (eval (Expr.Name _ _) (envOf _ _ _ _ _)) _ _ _); k_dflt (refine' nameX_L (cl := []) ?kF ?kv ?_ ?ka ?kb; (case kF => k_asm); (case ka => rfl); (case kb => rfl); (case kv => first | (with_reducible assumption) | exact look_hit | exact look_miss (by decide) (by with_reducible assumption) | exact look_miss (by decide) look_hit | exact look_miss (by decide) (look_miss (by decide) (by with_reducible assumption))))))

set_option maxHeartbeats 1000000 in
theorem Mine.bl_call {w : World} {A₀ A : Around} {base h₀ : Heap} {outer : List Env} {L : Addr} {m mg mb : Str → Option Value} {env : Env} {news : List (Addr × Obj)} {p : Program} {loose : List Str} {mean : ExcName → Option Value} {E : Value → Shared → Prop} {Q : Value → Shared → Prop} {s : Shared} {b : Addr} {vb : List Value} {bs : List Int} {kx : Int} {kt : Tok}
    (B : Below A₀ base outer h₀) (F : Fr h₀ L s.heap m) (KX : (Mine.hd.heap_39 w.params).In h₀) (N : News h₀ L s.heap news) (T : Top p loose mean mg mb h₀) (hA : A.frames = some (env :: outer)) (hf : env.frame = some L) (hke : env.scope.kind = .function) (hroom : A.depth < recursionLimit)
    (hm : (b, listOf vb.toArray 0) ∈ news) (hI : IntsAre vb bs) (hlen : bs.length ≤ 1000)
    (hs : ∀ i j : Nat, i ≤ j → j < bs.length → bs.getD i 0 ≤ bs.getD j 0)
    (h : ∀ i t' h' k', 0 ≤ i → i ≤ (bs.length : Int) → (∀ j : Nat, (j : Int) < i → bs.getD j 0 < kx) → (∀ j : Nat, i ≤ (j : Int) → j < bs.length → kx ≤ bs.getD j 0) → Fr h₀ L h' m → News h₀ L h' news → Q (.int i t') { s with heap := h', toks := k' }) :
    wpAny (model PySem.Challenge.rw_gc0004_01.row.prog w) A (call (.ref 85) [.ref b, .int kx kt]) Q E s := by
  have zz : (∃ p : OpenLaw × (Params → Frag), p = (PySem.Challenge.rw_gc0004_01, Mine.hd.heap_39)) := by
    k_fill
    exact ⟨_, rfl⟩
  clear zz
  have hl : s.heap.IsList b vb.toArray := ⟨_, (N _ hm).1, rfl, _, rfl⟩
  refine wpAny_call ?_
  refine code_def B F KX N T hA hf hke (by k_is) (by k_is) hroom (kp_binds (KX.keeps F.keep) (fun _ => rfl)) (locs rfl) ?_ rfl rfl rfl (by decide)
  intro g' L' h' FG' F' N' B' X' T'
  try dsimp only
  have hvl : vb.length = bs.length := hI.length
  k_steps
  unfold Halt
  try dsimp only
  refine wpAny_mono (E := fun _ _ => False) (While_inv (BisJ (fun a c => a < c) news b bs kx kt) (by k_asm) (by k_asm) (n₀ := bs.length) ?_ ?_ PassesOwn.never) (fun _ _ h => h) (fun _ _ h => h.elim)
  · refine ⟨rfl, 0, vb.length, ?tk0, ?tk1, ?i1, ?i2, ?i3, ?i4, by omega, by omega, by omega, fun j hj => by omega, fun j h1 h2 => by omega, by omega⟩
    case i2 => exact look_hit
    case i1 => refine look_miss (by decide) ?_; with_unfolding_all rfl
    case i3 => refine look_miss (by decide) ?_; with_unfolding_all rfl
    case i4 => refine look_miss (by decide) ?_; with_unfolding_all rfl
  · intro n m₁ news₁ h₁ tk₁ F₁ N₁ J₁
    obtain ⟨rfl, lo, hi, t1, t2, hlo, hhi, ha, hx, c1, c2, c3, c4, c5, c6⟩ := J₁
    k_steps
    · have hmb := mid_bounds c1 (by assumption : lo < hi)
      refine whileStep_S (by rfl) (by rfl) (by rfl) (by k_asm) (by k_asm) (n' := (hi - ((lo + hi).fdiv 2 + 1)).toNat) (by omega) ?_
      exact ⟨rfl, (lo + hi).fdiv 2 + 1, hi, _, _, look_hit, look_miss (by decide) (look_miss (by decide) hhi), look_miss (by decide) (look_miss (by decide) ha), look_miss (by decide) (look_miss (by decide) hx), by omega, by omega, by omega, left_lo hs c1 (by assumption) c3 (by assumption), c5, rfl⟩
    · have hmb := mid_bounds c1 (by assumption : lo < hi)
      refine whileStep_S (by rfl) (by rfl) (by rfl) (by k_asm) (by k_asm) (n' := ((lo + hi).fdiv 2 - lo).toNat) (by omega) ?_
      exact ⟨rfl, lo, (lo + hi).fdiv 2, _, _, look_miss (by decide) (look_miss (by decide) hlo), look_hit, look_miss (by decide) (look_miss (by decide) ha), look_miss (by decide) (look_miss (by decide) hx), by omega, by omega, by omega, c4, left_hi hs c1 (by assumption) c3 (by assumption), rfl⟩
    · refine h lo t1 h₁ tk₁ c1 (by omega) c4 (fun j h1 h2 => ?_) (by k_asm) (by k_asm)
      have := c5 j (by omega) h2
      have this2 : ¬ bs.getD j 0 < kx := this
      omega

set_option maxHeartbeats 1000000 in
theorem Mine.br_call {w : World} {A₀ A : Around} {base h₀ : Heap} {outer : List Env} {L : Addr} {m mg mb : Str → Option Value} {env : Env} {news : List (Addr × Obj)} {p : Program} {loose : List Str} {mean : ExcName → Option Value} {E : Value → Shared → Prop} {Q : Value → Shared → Prop} {s : Shared} {b : Addr} {vb : List Value} {bs : List Int} {kx : Int} {kt : Tok}
    (B : Below A₀ base outer h₀) (F : Fr h₀ L s.heap m) (KX : (Mine.hd.heap_39 w.params).In h₀) (N : News h₀ L s.heap news) (T : Top p loose mean mg mb h₀) (hA : A.frames = some (env :: outer)) (hf : env.frame = some L) (hke : env.scope.kind = .function) (hroom : A.depth < recursionLimit)
    (hm : (b, listOf vb.toArray 0) ∈ news) (hI : IntsAre vb bs) (hlen : bs.length ≤ 1000)
    (hs : ∀ i j : Nat, i ≤ j → j < bs.length → bs.getD i 0 ≤ bs.getD j 0)
    (h : ∀ i t' h' k', 0 ≤ i → i ≤ (bs.length : Int) → (∀ j : Nat, (j : Int) < i → bs.getD j 0 ≤ kx) → (∀ j : Nat, i ≤ (j : Int) → j < bs.length → kx < bs.getD j 0) → Fr h₀ L h' m → News h₀ L h' news → Q (.int i t') { s with heap := h', toks := k' }) :
    wpAny (model PySem.Challenge.rw_gc0004_01.row.prog w) A (call (.ref 76) [.ref b, .int kx kt]) Q E s := by
  have zz : (∃ p : OpenLaw × (Params → Frag), p = (PySem.Challenge.rw_gc0004_01, Mine.hd.heap_39)) := by
    k_fill
    exact ⟨_, rfl⟩
  clear zz
  have hl : s.heap.IsList b vb.toArray := ⟨_, (N _ hm).1, rfl, _, rfl⟩
  refine wpAny_call ?_
  refine code_def B F KX N T hA hf hke (by k_is) (by k_is) hroom (kp_binds (KX.keeps F.keep) (fun _ => rfl)) (locs rfl) ?_ rfl rfl rfl (by decide)
  intro g' L' h' FG' F' N' B' X' T'
  try dsimp only
  have hvl : vb.length = bs.length := hI.length
  k_steps
  unfold Halt
  try dsimp only
  refine wpAny_mono (E := fun _ _ => False) (While_inv (BisJ (fun a c => a ≤ c) news b bs kx kt) (by k_asm) (by k_asm) (n₀ := bs.length) ?_ ?_ PassesOwn.never) (fun _ _ h => h) (fun _ _ h => h.elim)
  · refine ⟨rfl, 0, vb.length, ?tk0, ?tk1, ?i1, ?i2, ?i3, ?i4, by omega, by omega, by omega, fun j hj => by omega, fun j h1 h2 => by omega, by omega⟩
    case i2 => exact look_hit
    case i1 => refine look_miss (by decide) ?_; with_unfolding_all rfl
    case i3 => refine look_miss (by decide) ?_; with_unfolding_all rfl
    case i4 => refine look_miss (by decide) ?_; with_unfolding_all rfl
  · intro n m₁ news₁ h₁ tk₁ F₁ N₁ J₁
    obtain ⟨rfl, lo, hi, t1, t2, hlo, hhi, ha, hx, c1, c2, c3, c4, c5, c6⟩ := J₁
    k_steps
    · have hmb := mid_bounds c1 (by assumption : lo < hi)
      refine whileStep_S (by rfl) (by rfl) (by rfl) (by k_asm) (by k_asm) (n' := ((lo + hi).fdiv 2 - lo).toNat) (by omega) ?_
      exact ⟨rfl, lo, (lo + hi).fdiv 2, _, _, look_miss (by decide) (look_miss (by decide) hlo), look_hit, look_miss (by decide) (look_miss (by decide) ha), look_miss (by decide) (look_miss (by decide) hx), by omega, by omega, by omega, c4, right_hi hs c1 (by assumption) c3 (by assumption), rfl⟩
    · have hmb := mid_bounds c1 (by assumption : lo < hi)
      refine whileStep_S (by rfl) (by rfl) (by rfl) (by k_asm) (by k_asm) (n' := (hi - ((lo + hi).fdiv 2 + 1)).toNat) (by omega) ?_
      exact ⟨rfl, (lo + hi).fdiv 2 + 1, hi, _, _, look_hit, look_miss (by decide) (look_miss (by decide) hhi), look_miss (by decide) (look_miss (by decide) ha), look_miss (by decide) (look_miss (by decide) hx), by omega, by omega, by omega, right_lo hs c1 (by assumption) c3 (by assumption), c5, rfl⟩
    · refine h lo t1 h₁ tk₁ c1 (by omega) c4 (fun j h1 h2 => ?_) (by k_asm) (by k_asm)
      have := c5 j (by omega) h2
      have this2 : ¬ bs.getD j 0 ≤ kx := this
      omega
end

open PySem PySem.W PyProof.Rows

namespace Mine
section
variable {prog : Program} {w : World} {A : Around} {E : Value → Shared → Prop} {s : Shared} {Q : Value → Shared → Prop}
theorem join_first {D : Addr} {ys : List Value} {sep : PySem.Str} {t : Tok} {ns : List Int} (hl : s.heap.IsList D ys.toArray) (hi : StrsAre ys ((List.take 20 ns).map fun k => T! [pick k])) (hsep : sep = T! [])
    (h : ∀ X Y t' k, X.length ≤ 20 → 13 ∉ X → Tis 20 X Y → Q (.str Y t') { s with toks := k }) : wpAny (model prog w) A (call (.builtin "str.join") [.str sep t, .ref D]) Q E s := by
  have hn : (List.take 20 ns).length ≤ 20 := by rw [List.length_take]; omega
  refine join_one hl hi hsep (by omega) fun x t' k _ hxl hx => h x _ t' k (by omega) (fun h13 => ?_) ⟨rfl, by omega, fun c hc => ?_⟩
  · have := hx 13 h13; omega
  · have := hx c hc; omega
end
end Mine
open Mine

local macro_rules | `(tactic| walk_at "CompSrc") => `(tactic| (refine halt ?_))
local macro_rules | `(tactic| walk_at "CompSrcT") => `(tactic| (refine halt ?_))
local macro_rules | `(tactic| walk_at "call builtin:len") => `(tactic| (k_here; (with_reducible show wpAny _ _ (call (Value.builtin "len") [Value.str _ _]) _ _ _); k_dflt (refine len_S (by with_reducible assumption) (by decide) ?_); intro _ _))
local macro_rules | `(tactic| walk_at "subscriptTail Name Name str int") => `(tactic| (k_here; (with_reducible show wpAny _ _ (subscriptTail _ _ (Value.str _ _) (Value.int _ _)) _ _ _); k_dflt (refine item_S (by with_reducible assumption) (by decide) (by omega) (by omega) ?_); intro _ _ _ hZ))

local macro_rules | `(tactic| walk_at "eval ListComp") => `(tactic| first
  | ((with_reducible show wpAny _ _ (eval (Expr.ListComp (Expr.BinOp _ _ _ _) _ _ _) _) _ _ _); refine halt ?_)
  | ((with_reducible show wpAny _ _ (eval (Expr.ListComp (Expr.IfExp _ _ _ _) _ _ _) _) _ _ _); refine halt ?_)
  | ((with_reducible show wpAny _ _ (eval (Expr.ListComp (Expr.Name _ _) _ _ _) _) _ _ _); refine halt ?_))
local macro_rules | `(tactic| walk_at "exec Assign cons ListComp") => `(tactic| (refine halt ?_))
local macro_rules | `(tactic| walk_at "eval Name") => `(tactic| (k_here; (with_reducible show wpAny _ _ (eval (Expr.Name (Str.ofString "text") _) (envOfC _ _ _ _ _)) _ _ _); k_dflt (refine ldCN (N := by k_asm) (by rfl) (by k_mem) (by assumption) ?_)))
local macro_rules | `(tactic| walk_at "compareOp Eq str str") => `(tactic| (k_here; (with_reducible show wpAny _ _ (compareOp _ (Value.str _ _) (Value.str (Str.ofString _) _)) _ _ _); k_dflt (refine eq_SC (by with_reducible assumption) ?_)))

local macro_rules | `(tactic| walk_at "call builtin:str.split") => `(tactic| (k_here; k_dflt (refine split_rows (by with_reducible assumption) (by decide) (by decide +kernel) (by k_asm) (by k_asm) ?_); intro D' vs' h' k' hL' F' N' l1; (try k_lt l1)))

local macro_rules | `(tactic| walk_at "getMethod ref") => `(tactic| (k_here; (with_reducible show wpAny _ _ (getMethod (Value.ref _) (Str.ofString "sub") _) _ _ _); k_dflt (refine getMethod_sub (by k_asm) (by k_asm) (by k_is) (by rfl) (by rfl) ?_)))
local macro_rules | `(tactic| walk_at "call builtin:re.Pattern.sub") => `(tactic| (k_here; (first
  | ((with_reducible show wpAny _ _ (call _ [_, Value.str (Str.ofString "\r\n") _, _]) _ _ _); k_dflt (refine fix_S (by with_reducible assumption) (by decide) (by decide +kernel) (pat_K (by k_asm) (by k_is) (by rfl) (by k_is) (by rfl) (by decide +kernel)) (cls_K (by k_asm) (by k_is) (by rfl)) (by k_asm) (by k_asm) ?_))
  | ((with_reducible show wpAny _ _ (call _ [_, Value.str _ _, _]) _ _ _); k_dflt (refine quo_S (by with_reducible assumption) (by decide) (by decide +kernel) (pat_K (by k_asm) (by k_is) (by rfl) (by k_is) (by rfl) (by decide +kernel)) (cls_K (by k_asm) (by k_is) (by rfl)) (by k_asm) (by k_asm) ?_))
  | (k_dflt (refine quo_SB (by with_reducible assumption) (by decide) (by decide +kernel) (pat_K (by k_asm) (by k_is) (by rfl) (by k_is) (by rfl) (by decide +kernel)) (cls_K (by k_asm) (by k_is) (by rfl)) (by k_asm) (by k_asm) ?_))); intro _ h' _ _ F' N' hS'))

local macro_rules | `(tactic| walk_at "call builtin:str.join") => `(tactic| (k_here; k_dflt (refine join_R (News.isList (by k_asm) (by k_mem)) (by assumption) (by decide +kernel) ?_); intro _ _ _ hS'))
local macro_rules | `(tactic| walk_at "compareOp NotEq str str") => `(tactic| (k_here; (first
  | k_dflt (refine ne_S (by with_reducible assumption) (by with_reducible assumption) (law_fix _ (by assumption)) ?_)
  | k_dflt (refine ne_S (by with_reducible assumption) (by with_reducible assumption) (law_fix2 _ (by assumption)) ?_)
  | k_dflt (refine ne_S (by with_reducible assumption) (by with_reducible assumption) (law_told _ (by assumption)) ?_)
  | k_dflt (refine ne_S (by with_reducible assumption) (by with_reducible assumption) (congrArg (quo true) (law_fix2 _ (by assumption))) ?_)
  | k_dflt (refine ne_S (by with_reducible assumption) (by with_reducible assumption) (law_swap _ true (by assumption)) ?_))))

local macro_rules | `(tactic| walk_at "subscriptTail Name Slice str ref") => `(tactic| (k_here; (with_reducible rename Fr _ _ _ _ => kF'); (with_reducible rename News _ _ _ _ => kN'); (first
  | ((with_reducible show wpAny _ _ (subscriptTail _ (Expr.Slice none (some _) none _) _ _) _ _ _); k_dflt (refine take_S (s := ⟨_, _, _, _, _⟩) (by with_reducible assumption) (by decide) (by omega) kF' kN' ?_))
  | ((with_reducible show wpAny _ _ (subscriptTail _ (Expr.Slice (some _) none none _) _ _) _ _ _); k_dflt (refine drop_S (s := ⟨_, _, _, _, _⟩) (by with_reducible assumption) (by decide) (by omega) kF' kN' ?_))); intro h' _ _ _ F' N' hS'))

local macro_rules | `(tactic| walk_at "binaryOp Add str str") => `(tactic| (k_here; k_dflt (refine add_S (Tis.const _ (by decide +kernel)) (by with_reducible assumption) (by decide +kernel) ?_); intro _ _ _ hS'))
local macro_rules | `(tactic| walk_at "IsT") => `(tactic| (first
  | exact isT_dot (by with_reducible assumption) (by decide +kernel) (by assumption)
  | exact isT_dotn (by with_reducible assumption) (by decide +kernel) (by assumption)
  | exact isT_undot (by with_reducible assumption) (by decide +kernel) (by assumption)
  | exact isT_undotn (by with_reducible assumption) (by decide +kernel) (by assumption)))

local macro_rules | `(tactic| walk_at "CompEnd") => `(tactic| (refine compEnd_S (by rfl) (by rfl) (by rfl) (by k_asm) (by k_asm) (by with_reducible assumption) (by lcg_src) ⟨by rfl, ?_⟩))

local macro_rules | `(tactic| walk_at "exec While Compare cons nil") => `(tactic| (refine halt ?_))
local macro_rules | `(tactic| walk_at "binaryOp Add ref ref") => `(tactic| (refine halt ?_))

local macro_rules | `(tactic| walk_at "call ref") => `(tactic| first | ((with_reducible show wpAny _ _ (call (Value.ref 85) _) _ _ _); refine halt ?_) | ((with_reducible show wpAny _ _ (call (Value.ref 76) _) _ _ _); refine halt ?_))
local macro_rules | `(tactic| walk_at "call builtin:len") => `(tactic| ((with_reducible show wpAny _ _ (call _ [Value.ref _]) _ _ _); refine halt ?_))
local macro_rules | `(tactic| walk_at "call ref") => `(tactic| (k_here; (first
  | ((with_reducible show wpAny _ _ (call (Value.ref 85) [Value.ref _, Value.int _ _]) _ _ _); k_dflt (refine' bl_call ?kB ?kF ?kX ?kN ?kT ?kA ?kf ?kk ?kr ?km ?kI ?kl (begs_sorted _) ?_; (case kF => k_asm); (case kN => k_asm); (case kB => k_asm); (case kX => k_asm); (case kT => k_asm); (case kA => exact rfl); (case kf => exact rfl); (case kk => exact rfl); (case kr => k_room); (case km => k_mem); (case kI => with_reducible assumption); (case kl => omega)))
  | ((with_reducible show wpAny _ _ (call (Value.ref 76) [Value.ref _, Value.int _ _]) _ _ _); k_dflt (refine' br_call ?kB ?kF ?kX ?kN ?kT ?kA ?kf ?kk ?kr ?km ?kI ?kl (begs_sorted _) ?_; (case kF => k_asm); (case kN => k_asm); (case kB => k_asm); (case kX => k_asm); (case kT => k_asm); (case kA => exact rfl); (case kf => exact rfl); (case kk => exact rfl); (case kr => k_room); (case km => k_mem); (case kI => with_reducible assumption); (case kl => omega)))); intro z' _ h' _ hz0' hz1' hz2' hz3' F' N'))
local macro_rules | `(tactic| walk_at "call builtin:len") => `(tactic| (k_here; (with_reducible show wpAny _ _ (call (Value.builtin "len") [Value.ref _]) _ _ _); k_dflt (refine len_L (News.isList (by k_asm) (by k_mem)) (by omega) ?_); intro _ _))
local macro_rules | `(tactic| walk_at "subscriptTail Name Call ref int") => `(tactic| (k_here; k_dflt (refine item_L (News.isList (by k_asm) (by k_mem)) (by with_reducible assumption) (by omega) (by omega) (by omega) ?_); intro _))

local macro_rules | `(tactic| walk_at "getMethod str") => `(tactic| (k_here; first | ((with_reducible show wpAny _ _ (getMethod (Value.str _ _) (Str.ofString "encode") _) _ _ _); with_reducible refine getMethod_encode ?_) | ((with_reducible show wpAny _ _ (getMethod (Value.str _ _) (Str.ofString "count") _) _ _ _); with_reducible refine getMethod_count ?_)))
local macro_rules | `(tactic| walk_at "getMethod bytes") => `(tactic| (k_here; (with_reducible show wpAny _ _ (getMethod (Value.bytes _ _) (Str.ofString "decode") _) _ _ _); with_reducible refine getMethod_decode ?_))
local macro_rules | `(tactic| walk_at "call builtin:str.encode") => `(tactic| (k_here; k_dflt (refine encode_S (by with_reducible assumption) (by decide) (by rfl) ?_); intro _ _ _ hS'))
local macro_rules | `(tactic| walk_at "call builtin:bytes.decode") => `(tactic| (k_here; k_dflt (refine decode_S (by with_reducible assumption) (by decide) (by rfl) ?_); intro _ _ _ hS'))
local macro_rules | `(tactic| walk_at "compareOp NotEq bytes bytes") => `(tactic| (k_here; k_dflt (refine ne_B (by with_reducible assumption) (by with_reducible assumption) ?_)))

local macro_rules | `(tactic| walk_at "call builtin:str.split") => `(tactic| (k_here; (with_reducible show wpAny _ _ (call _ [_, Value.str (Str.ofString "\r\n") _]) _ _ _); k_dflt (refine split_told (by with_reducible assumption) (by with_reducible assumption) (by with_reducible assumption) (by decide) (by decide +kernel) (by k_asm) (by k_asm) ?_); intro D' vs' h' k' hL' F' N' l1; (try k_lt l1)))
local macro_rules | `(tactic| walk_at "compareOp In str ref") => `(tactic| (k_here; k_dflt (refine in_Lis (News.isList (by k_asm) (by k_mem)) (by with_reducible assumption) (by decide +kernel) (no_point _) ?_)))

local macro_rules | `(tactic| walk_at "compareOp NotEq int int") => `(tactic| (k_here; first | k_dflt (refine ne_I (by omega) ?_) | k_dflt (refine ne_I (br_row (by with_reducible assumption) (by with_reducible assumption) (by with_reducible assumption) (by with_reducible assumption)) ?_)))

local macro_rules | `(tactic| walk_at "compareOp NotEq ref ref") => `(tactic| (k_here; k_dflt (refine ne_Lis (News.isList (by k_asm) (by k_mem)) (News.isList (by k_asm) (by k_mem)) (by with_reducible assumption) (by with_reducible assumption) (by ke_room) rfl ?_)))
local macro_rules | `(tactic| walk_at "compareOp Eq ref ref") => `(tactic| (refine halt ?_))

local macro_rules | `(tactic| walk_at "call builtin:str.count") => `(tactic| (k_here; k_dflt (refine count_S (by with_reducible assumption) (by decide) (by decide +kernel) ?_); intro _ _))

set_option maxHeartbeats 3000000 in
theorem PySem.Challenge.cw_gc0004_01_holds : PySem.Challenge.rw_gc0004_01.Holds :=
  hd (by
  w_strict (k_go0; (all_goals try k_fold); k_steps)
  unfold Halt
  try dsimp only
  refine LCg.CompSrc.ledger (its := List.toArray _) (by rfl) (by k_asm) (by k_asm) (by k_mem) ?hsz1 ?_
  case hsz1 => size_fits
  intro g'
  refine c1_rest (by assumption) ?turn ?fin
  case turn =>
    intro k' t' I' oI' C' oC' D' m' ys' h' tk' E' hC' hx' F' N' off' ne'
    have off9 := off'
    try simp only [LCg.Off3, and_true] at off'
    try dsimp only
    k_steps
    exact ⟨_, by rw [pick_eq]⟩
  intro ys hys
  k_steps
  refine join_first (News.isList (by k_asm) (by k_mem)) hys (by decide +kernel) ?_
  intro X Y t' k' hXl hX13 hXY
  k_steps
  unfold Halt
  try dsimp only
  refine LCt.ListComp_T (F₀ := by k_asm) (cl := ?cl) ?a1 ?a2 ?a3 ?a4 ?a5 ?a6
  case a1 => with_unfolding_all rfl
  case a2 => decide
  case a3 => rfl
  case a4 => decide
  case a5 => rfl
  k_steps
  unfold Halt
  try dsimp only
  refine LCt.CompSrcT.range (n := X.length) (by rfl) (by k_asm) (by k_asm) (by assumption) ?hsm ?hn ?hsz ?_
  case hsm => exact small_one (by decide) (by decide) (by omega) (by omega)
  case hn => exact rangeSize_nat _ _
  case hsz => exact fits_line (by omega)
  intro g'
  refine rest_R (fun i => X.getD i 0 == 10) (fun i => (i : Int) + 1) ?t2a ?t2b ?t2f
  case t2a =>
    intro i t' I' oI' C' oC' D' m' ys' h' tk' E' hi' hC' hx' F' N' off' ne'
    have off9 := off'
    try simp only [LCg.Off3, and_true] at off'
    try dsimp only
    k_steps
    exact tend_one (by decide +kernel) i
  case t2b =>
    intro i t' I' oI' C' oC' D' m' ys' h' tk' E' hi' hc' hC' hx' F' N' off' ne'
    have off9 := off'
    try simp only [LCg.Off3, and_true] at off'
    try dsimp only
    k_steps
    exact ⟨_, rfl⟩
  intro ys2 hys2
  try dsimp only
  k_steps
  unfold Halt
  refine add_begs (by k_asm) (by k_asm) (by k_mem) (by k_mem) hys2 (by omega) ?_
  intro DB vb h' hvb F' N' lB
  k_lt lB
  have hvbl := hvb.length
  have hbgl := begs_short hXl
  w_strict k_steps
  unfold Halt
  try dsimp only
  refine LCg.ListComp_U (F₀ := by k_asm) (cl := ?cl3) ?a31 ?a32 ?a33 ?a34 ?a35 ?a36
  case a31 => with_unfolding_all rfl
  case a32 => decide
  case a33 => rfl
  case a34 => decide
  case a35 => rfl
  k_steps
  unfold Halt
  try dsimp only
  refine LCg.CompSrc.ledger (its := List.toArray _) (by rfl) (by k_asm) (by k_asm) (by k_mem) ?hsz3 ?_
  case hsz3 => exact fits_line (by have := Lis.len (by assumption); have := (by assumption : Lis _ _).2.1; simp; omega)
  intro g'
  refine rest_rows dot (by assumption) ?hB3 ?t3 ?f3
  case hB3 => exact fun r hr => Nat.le_trans (splitL_part_len X r hr) (by omega)
  case t3 =>
    intro r Yr t' I' oI' C' oC' D' m' ys' h' tk' E' hr' hYr' hC' hx' F' N' off' ne'
    have off9 := off'
    try simp only [LCg.Off3, and_true] at off'
    try dsimp only
    k_steps
    all_goals first
      | exact isT_dot (by with_reducible assumption) (by decide +kernel) (by assumption)
      | exact isT_dotn (by with_reducible assumption) (by decide +kernel) (by assumption)
  intro ys3 hys3
  try dsimp only
  w_strict k_steps
  unfold Halt
  try dsimp only
  refine LCt.Assign_ListComp_T (F₀ := by k_asm) (cl := ?cl4) ?a41 ?a42 ?a43 ?a44 ?a45 ?a46 ?a47 ?a48 ?a49 ?a4
  case a41 => rfl
  case a42 => with_unfolding_all rfl
  case a43 => with_unfolding_all rfl
  case a44 => decide
  case a45 => rfl
  case a46 => decide
  case a47 => rfl
  case a48 => rfl
  case a49 => rfl
  k_steps
  unfold Halt
  try dsimp only
  refine LCt.CompSrcT.range (n := X.length) (by rfl) (by k_asm) (by k_asm) (by assumption) ?hsm4 ?hn4 ?hsz4 ?_
  case hsm4 => exact small_one (by decide) (by decide) (by omega) (by omega)
  case hn4 => exact rangeSize_nat _ _
  case hsz4 => exact fits_line (by omega)
  intro g'
  refine rest_R (fun i => X.getD i 0 == 46 && beg X i) (fun i => (i : Int)) ?t4a ?t4b ?f4
  case t4a =>
    intro i t' I' oI' C' oC' D' m' ys' h' tk' E' hi' hC' hx' F' N' off' ne'
    have off9 := off'
    try simp only [LCg.Off3, and_true] at off'
    try dsimp only
    k_steps
    all_goals first
      | exact tend_bl_t point_cps (by assumption) hvbl hi' (by assumption) (by assumption) (by assumption) (by assumption) (by assumption)
      | exact tend_bl_f point_cps (by assumption) hvbl hi' (by assumption) (by assumption) (by assumption) (by assumption) (by assumption)
      | exact tend_and_f point_cps (by assumption)
  case t4b =>
    intro i t' I' oI' C' oC' D' m' ys' h' tk' E' hi' hc' hC' hx' F' N' off' ne'
    have off9 := off'
    try simp only [LCg.Off3, and_true] at off'
    try dsimp only
    k_steps
    exact ⟨_, rfl⟩
  intro ys4 hys4
  have h4l : ys4.length ≤ 20 := by
    have h1 := hys4.length
    have h2 := List.length_filter_le (fun i => X.getD i 0 == 46 && beg X i) (List.range X.length)
    rw [List.length_map] at h1
    rw [List.length_range] at h2
    omega
  have hrl := Lis.len (by assumption : Lis (splitL X) _)
  have hsl := splitL_len X
  have hcl := List.count_le_length (a := 10) (l := X)
  have htl := told_len hX13 (hrl.trans hsl) (hys4.length.trans (List.length_map _))
  try dsimp only
  w_strict k_steps
  unfold Halt
  try dsimp only
  refine LCg.ListComp_U (F₀ := by k_asm) (cl := ?cl5) ?a51 ?a52 ?a53 ?a54 ?a55 ?a56
  case a51 => with_unfolding_all rfl
  case a52 => decide
  case a53 => rfl
  case a54 => decide
  case a55 => rfl
  k_steps
  unfold Halt
  try dsimp only
  have hLd := (by assumption : Lis ((splitL X).map dot) _)
  refine LCg.CompSrc.ledger (its := List.toArray _) (by rfl) (by k_asm) (by k_asm) (by k_mem) ?hsz5 ?_
  case hsz5 => exact fits_line (by have := Lis.len hLd; have := hLd.2.1; simp; omega)
  intro g'
  refine rest_rows undot hLd ?hB5 ?t5 ?f5
  case hB5 =>
    intro r hr
    obtain ⟨r0, hr0, rfl⟩ := List.mem_map.mp hr
    have h1 := dot_len r0
    have h2 := splitL_part_len X r0 hr0
    omega
  case t5 =>
    intro r Yr t' I' oI' C' oC' D' m' ys' h' tk' E' hr' hYr' hC' hx' F' N' off' ne'
    have off9 := off'
    try simp only [LCg.Off3, and_true] at off'
    try dsimp only
    k_steps
    all_goals first
      | exact isT_undot (by with_reducible assumption) (by decide +kernel) (by assumption)
      | exact isT_undotn (by with_reducible assumption) (by decide +kernel) (by assumption)
  intro ys5 hys5
  rw [undots] at hys5
  try dsimp only
  w_strict k_steps
  unfold Halt
  try dsimp only
  refine LCt.ListComp_T (F₀ := by k_asm) (cl := ?cl6) ?a61 ?a62 ?a63 ?a64 ?a65 ?a66
  case a61 => with_unfolding_all rfl
  case a62 => decide
  case a63 => rfl
  case a64 => decide
  case a65 => rfl
  k_steps
  unfold Halt
  try dsimp only
  refine LCt.CompSrcT.range (n := X.length) (by rfl) (by k_asm) (by k_asm) (by assumption) ?hsm6 ?hn6 ?hsz6 ?_
  case hsm6 => exact small_one (by decide) (by decide) (by omega) (by omega)
  case hn6 => exact rangeSize_nat _ _
  case hsz6 => exact fits_line (by omega)
  intro g'
  refine rest_R (fun _ => false) (fun i => (i : Int)) ?t6a ?t6b ?f6
  case t6a =>
    intro i t' I' oI' C' oC' D' m' ys' h' tk' E' hi' hC' hx' F' N' off' ne'
    have off9 := off'
    try simp only [LCg.Off3, and_true] at off'
    try dsimp only
    k_steps
    exact tend_br (by assumption) (by assumption) (by assumption) (by assumption)
  case t6b =>
    intro i t' I' oI' C' oC' D' m' ys' h' tk' E' hi' hc' hC' hx' F' N' off' ne'
    exact absurd hc' (by decide)
  intro ys6 hys6
  try dsimp only
  w_strict k_steps
  unfold Halt
  try dsimp only
  refine eq_nil_L (News.isList (by k_asm) (by k_mem)) (News.isList (by k_asm) (by k_mem)) hys6 no_turns (by ke_room) ?_
  w_strict k_steps)
