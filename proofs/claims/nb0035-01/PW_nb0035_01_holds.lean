import PyProof.Rows.All
import Wide.All
import OpenK.AllK
import Wide.FinOn
import PySem.Challenge.RW_nb0035_01
set_option Elab.async false
section
open PySem PySem.W PyProof.Rows
set_option Elab.async false
namespace Mine
set_option maxRecDepth 100000 in
set_option maxHeartbeats 8000000 in
open_top hd for PySem.Challenge.rw_nb0035_01
end Mine
end
section
open PySem PySem.Sre
set_option maxRecDepth 100000
set_option linter.unusedSimpArgs false
namespace Mine
def code1 : Array Nat := #[14, 4, 0, 1, 1, 6, 1, 16, 46, 1]
def code2 : Array Nat := #[14, 9, 4, 1, 2, 16, 10, 16, 13, 0, 7, 7, 16, 13, 16, 10, 15, 18, 5, 16, 10, 15, 13, 11, 16, 13, 5, 5, 0, 16, 10, 1, 15, 2, 0, 1]

theorem runFor_stop {m : M} (h : m.outcome.isSome = true) : ∀ n, M.runFor n m = m
  | 0 => rfl
  | n + 1 => by rw [M.runFor, if_pos h]
theorem runFor_add (a b : Nat) : ∀ m : M, M.runFor (a + b) m = M.runFor b (M.runFor a m) := by
  induction a with
  | zero => intro m; rw [Nat.zero_add]; rfl
  | succ a ih =>
    intro m
    rw [Nat.succ_add, M.runFor, M.runFor]
    by_cases h : m.outcome.isSome = true
    · rw [if_pos h, if_pos h, runFor_stop h]
    · rw [if_neg h, if_neg h, ih]

/-- in n steps or fewer the machine ends: it has found from s to e, or nothing -/
def Ends (n : Nat) (m : M) (r : Option (Nat × Nat)) : Prop :=
  ∃ k, k ≤ n ∧ match r with
    | some (s, e) => (M.runFor k m).outcome = some .matched ∧ (M.runFor k m).start = s ∧ (M.runFor k m).handed = e
    | none => (M.runFor k m).outcome = some .failed
theorem Ends.step {n : Nat} {m : M} {r : Option (Nat × Nat)} (h0 : m.outcome = none) (h : Ends n m.step r) : Ends (n + 1) m r := by
  obtain ⟨k, hk, h⟩ := h
  refine ⟨k + 1, Nat.succ_le_succ hk, ?_⟩
  have e : M.runFor (k + 1) m = M.runFor k m.step := by rw [M.runFor, h0]; rfl
  rw [e]; exact h
theorem Ends.mono {n n' : Nat} {m : M} {r : Option (Nat × Nat)} (h : Ends n m r) (hn : n ≤ n') : Ends n' m r := by
  obtain ⟨k, hk, h⟩ := h
  exact ⟨k, Nat.le_trans hk hn, h⟩
theorem Ends.now {m : M} {s e : Nat} (h : m.outcome = some .matched) (hs : m.start = s) (he : m.handed = e) : Ends 0 m (some (s, e)) := ⟨0, Nat.le_refl _, h, hs, he⟩
theorem Ends.no {m : M} (h : m.outcome = some .failed) : Ends 0 m none := ⟨0, Nat.le_refl _, h⟩

/-- the machine at the branch: a line's end stands at s -/
def at2 (text : Array Nat) (s last : Nat) (seen : Seen) (first : Bool) : M :=
  { code := code2, text, lim := text.size, start := s, lastStart := last, pc := 10, pos := s, handed := s, marks := #[], seen, outermost := first,
    frames := [{ wait := .nextStart, pc := 10, pos := s, outermost := first }], weight := 1 }

theorem run2_crlf {text : Array Nat} {s last : Nat} {seen : Seen} {first : Bool} (h0 : s + 1 < text.size) (h1 : text.getD s 0 = 13) (h2 : text.getD (s + 1) 0 = 10) :
    Ends 40 (at2 text s last seen first) (some (s, s + 2)) := by
  have a : ¬ text.size ≤ s := by omega
  have b : ¬ text.size ≤ s + 1 := by omega
  unfold at2
  iterate 8 (refine Ends.step rfl ?_; simp [M.step, M.exec, M.word, code1, code2, M.alternative, M.attempt, M.frame, M.keep, ops, accepts, itemWidth, M.say, M.resume, M.putBack, M.isAt, h1, h2, a, b])
  exact (Ends.now rfl rfl rfl).mono (by omega)

theorem run2_lf {text : Array Nat} {s last : Nat} {seen : Seen} {first : Bool} (h0 : s < text.size) (h1 : text.getD s 0 = 10) :
    Ends 40 (at2 text s last seen first) (some (s, s + 1)) := by
  have a : ¬ text.size ≤ s := by omega
  unfold at2
  iterate 9 (refine Ends.step rfl ?_; simp [M.step, M.exec, M.word, code1, code2, M.alternative, M.attempt, M.frame, M.keep, ops, accepts, itemWidth, M.say, M.resume, M.putBack, M.isAt, h1, a])
  exact (Ends.now rfl rfl rfl).mono (by omega)

theorem run2_cr {text : Array Nat} {s last : Nat} {seen : Seen} {first : Bool} (h0 : s < text.size) (h1 : text.getD s 0 = 13) (h2 : s + 1 = text.size ∨ text.getD (s + 1) 0 ≠ 10) :
    Ends 40 (at2 text s last seen first) (some (s, s + 1)) := by
  have a : ¬ text.size ≤ s := by omega
  unfold at2
  by_cases b : text.size ≤ s + 1
  · iterate 15 (refine Ends.step rfl ?_; simp [M.step, M.exec, M.word, code1, code2, M.alternative, M.attempt, M.frame, M.keep, ops, accepts, itemWidth, M.say, M.resume, M.putBack, M.isAt, h1, a, b])
    exact (Ends.now rfl rfl rfl).mono (by omega)
  · have h3 : (text[s + 1]?.getD 0 == 10) = false := by
      rcases h2 with h2 | h2
      · omega
      · simpa using h2
    iterate 15 (refine Ends.step rfl ?_; simp [M.step, M.exec, M.word, code1, code2, M.alternative, M.attempt, M.frame, M.keep, ops, accepts, itemWidth, M.say, M.resume, M.putBack, M.isAt, h1, a, b, h3])
    exact (Ends.now rfl rfl rfl).mono (by omega)

/-- the first place from s on, n places at most, that holds a line's end -/
def end2 (text : Array Nat) : Nat → Nat → Option Nat
  | 0, _ => none
  | n + 1, s => if text.getD s 0 = 10 ∨ text.getD s 0 = 13 then some s else end2 text n (s + 1)
/-- what the second pattern finds from s on -/
def find2 (text : Array Nat) (s : Nat) : Option (Nat × Nat) :=
  (end2 text (text.size - s) s).map fun i => (i, if text.getD i 0 = 13 ∧ text.getD (i + 1) 0 = 10 then i + 2 else i + 1)
theorem end2_spec (text : Array Nat) : ∀ n s i, end2 text n s = some i → s ≤ i ∧ i < s + n ∧ (text.getD i 0 = 10 ∨ text.getD i 0 = 13)
  | 0, _, _, h => by cases h
  | n + 1, s, i, h => by
    rw [end2] at h
    split at h
    · cases h; exact ⟨Nat.le_refl _, by omega, by assumption⟩
    · obtain ⟨a, b, c⟩ := end2_spec text n (s + 1) i h
      exact ⟨by omega, by omega, c⟩

theorem inSet2 (c : Nat) (seen : Seen) : ∃ sn, inSet code2 c code2.size 5 true seen = .ok (decide (c = 10 ∨ c = 13), sn) := by
  by_cases h : c = 10
  · subst h; exact ⟨_, rfl⟩
  · by_cases h' : c = 13
    · subst h'; exact ⟨_, rfl⟩
    · simp [inSet, code2, ops, h, h']

theorem admitted2 {m : M} {text : Array Nat} (hc : m.code = code2) (ht : m.text = text) (hl : m.lim = text.size) : ∀ (fuel s : Nat) (seen : Seen), text.size - s < fuel →
    ∃ sn, m.admitted fuel s seen = .ok (end2 text (text.size - s) s, sn)
  | 0, s, seen, h => by omega
  | fuel + 1, s, seen, h => by
    rw [M.admitted, hl]
    by_cases hs : s ≥ text.size
    · rw [if_pos hs, show text.size - s = 0 by omega]; exact ⟨_, rfl⟩
    · rw [if_neg hs, show text.size - s = (text.size - (s + 1)) + 1 by omega, end2]
      obtain ⟨sn, e⟩ := inSet2 (text.getD s 0) seen
      rw [hc, ht, e]
      by_cases hq : text.getD s 0 = 10 ∨ text.getD s 0 = 13
      · rw [if_pos hq, decide_eq_true hq]; exact ⟨_, rfl⟩
      · rw [if_neg hq, decide_eq_false hq]; exact admitted2 hc ht hl fuel (s + 1) sn (by omega)

def m2 (text : Array Nat) (s last : Nat) : M :=
  { code := code2, text, lim := text.size, start := s, lastStart := last, pc := 10, pos := s, handed := s, marks := #[], seen := ({} : Seen).add 14 }
theorem search2_eq (text : Array Nat) (s : Nat) : forSearch code2 text 0 s text.size false =
    if (decide (s > text.size) || decide (text.size - s < 1)) = true then (m2 text s 0).say false else (m2 text s text.size).attemptFrom s true := rfl

theorem search2 (text : Array Nat) (s : Nat) : Ends 50 (forSearch code2 text 0 s text.size false) (find2 text s) := by
  rw [search2_eq]
  have no : ∀ m : M, m.outcome = none → m.frames = [] → Ends 50 (m.say false) none := fun m h1 h2 =>
    (Ends.step h1 ((Ends.no (by simp [M.step, M.say, h1, h2])).mono (Nat.zero_le 49)))
  split
  · rename_i h
    have h' : text.size - s = 0 := by simp at h; omega
    rw [find2, h']
    exact no _ rfl rfl
  · rename_i h
    have h' : s < text.size := by simp at h; omega
    have hf : M.attemptFrom (m2 text s text.size) s true = match (m2 text s text.size).admitted (text.size + 1 - s) s (m2 text s text.size).seen with
      | .ok (some s', seen) => M.attemptAt { m2 text s text.size with mustAdvance := false, seen } s' true
      | .ok (none, seen) => M.say { m2 text s text.size with seen } false
      | .error why => (m2 text s text.size).stick why := rfl
    rw [hf]
    obtain ⟨sn, e⟩ := admitted2 (m := m2 text s text.size) (text := text) rfl rfl rfl (text.size + 1 - s) s (m2 text s text.size).seen (by omega)
    rw [e]
    unfold find2
    cases hi : end2 text (text.size - s) s with
    | none => exact no _ rfl rfl
    | some i =>
      obtain ⟨a, b, c⟩ := end2_spec text _ _ _ hi
      have hat : M.attemptAt { m2 text s text.size with mustAdvance := false, seen := sn } i true = at2 text i text.size sn true := rfl
      show Ends 50 (M.attemptAt { m2 text s text.size with mustAdvance := false, seen := sn } i true) (some (i, if text.getD i 0 = 13 ∧ text.getD (i + 1) 0 = 10 then i + 2 else i + 1))
      rw [hat]
      by_cases q : text.getD i 0 = 13 ∧ text.getD (i + 1) 0 = 10
      · rw [if_pos q]
        refine (run2_crlf ?_ q.1 q.2).mono (by omega)
        refine Nat.lt_of_not_le fun hle => ?_
        have : text.getD (i + 1) 0 = 0 := by simp [Array.getElem?_eq_none hle]
        omega
      · rw [if_neg q]
        rcases c with c | c
        · exact (run2_lf (by omega) c).mono (by omega)
        · exact (run2_cr (by omega) c (.inr fun z => q ⟨c, z⟩)).mono (by omega)

/-- the first pattern at a place -/
def at1 (text : Array Nat) (s : Nat) (seen : Seen) (first : Bool) : M :=
  { code := code1, text, lim := text.size, start := s, lastStart := text.size, pc := 5, pos := s, handed := s, marks := #[], seen, outermost := first,
    frames := [{ wait := .nextStart, pc := 5, pos := s, outermost := first }], weight := 1 }
def ok1 (text : Array Nat) (s : Nat) : Prop := (s = 0 ∨ text.getD (s - 1) 0 = 10) ∧ s < text.size ∧ text.getD s 0 = 46
theorem ok1_dec (text : Array Nat) (s : Nat) : ok1 text s ∨ ¬ ok1 text s := Classical.em _
open Classical in
noncomputable def find1 (text : Array Nat) : Nat → Nat → Option (Nat × Nat)
  | 0, _ => none
  | n + 1, s => if ok1 text s then some (s, s + 1) else find1 text n (s + 1)
theorem Ends.steps {n : Nat} {m m' : M} {r : Option (Nat × Nat)} (k : Nat) (e : M.runFor k m = m') (h : Ends n m' r) : Ends (k + n) m r := by
  obtain ⟨j, hj, h⟩ := h
  refine ⟨k + j, Nat.add_le_add_left hj k, ?_⟩
  rw [runFor_add, e]; exact h

theorem yes1 {text : Array Nat} {s : Nat} {seen : Seen} {first : Bool} (h : ok1 text s) : Ends 10 (at1 text s seen first) (some (s, s + 1)) := by
  obtain ⟨h1, h2, h3⟩ := h
  have a : ¬ text.size ≤ s := by omega
  have b : s = 0 ∨ text[s - 1]?.getD 0 = 10 := by simpa using h1
  unfold at1
  iterate 5 (refine Ends.step rfl ?_; simp [M.step, M.exec, M.word, code1, code2, M.alternative, M.attempt, M.frame, M.keep, ops, accepts, itemWidth, M.say, M.resume, M.putBack, M.isAt, h3, a, b])
  exact (Ends.now rfl rfl rfl).mono (by omega)
theorem toSay {k : Nat} {m : M} {r : Option (Nat × Nat)} (e : ∃ sn, M.step m = M.say { m with seen := sn } false) (h : ∀ sn, Ends k (M.say { m with seen := sn } false) r) : Ends k (M.step m) r := by
  obtain ⟨sn, e⟩ := e
  rw [e]; exact h sn
theorem no1 {text : Array Nat} {s : Nat} {seen : Seen} {first : Bool} (h : ¬ ok1 text s) (r : Option (Nat × Nat)) (n : Nat)
    (hn : s < text.size → ∀ sn, Ends n (at1 text (s + 1) sn false) r) (hz : ¬ s < text.size → r = none) : Ends (n + 10) (at1 text s seen first) r := by
  have fin : ∀ m : M, m.outcome = none → m.answer = none → m.code = code1 → m.text = text → m.lim = text.size → m.lastStart = text.size → m.wholeText = false → m.loops = #[] → m.inner = none → m.marks = #[] → m.weight = 1 → m.frames = [{ wait := .nextStart, pc := 5, pos := s, outermost := first }] → Ends (n + 5) (m.say false) r := by
    intro m i1 i2 i3 i4 i5 i6 i7 i8 i9 i10 i11 i12
    obtain ⟨code, text', lim, start, lastStart, wholeText, mustAdvance, pc, pos, handed, outermost, marks, lastmark, lastindex, loops, inner, frames, weight, answer, seen', outcome⟩ := m
    simp only at i1 i2 i3 i4 i5 i6 i7 i8 i9 i10 i11 i12
    subst i1 i2 i3 i4 i5 i6 i7 i8 i9 i10 i11 i12
    refine Ends.step (n := n + 4) rfl ?_
    by_cases hs : s < text'.size
    · have e : ∃ sn, M.step (M.say { code := code1, text := text', lim := text'.size, start, lastStart := text'.size, wholeText := false, mustAdvance, pc, pos, handed, outermost, marks := #[], lastmark, lastindex, loops := #[], inner := none, frames := [{ wait := .nextStart, pc := 5, pos := s, outermost := first }], weight := 1, answer := none, seen := seen', outcome := none } false) = at1 text' (s + 1) sn false := by
        refine ⟨seen', ?_⟩
        simp [M.step, M.say, M.resume, hs, M.attemptFrom, M.hasFirstSet, M.attemptAt, M.attempt, at1, code1, ops, M.putBack]
      obtain ⟨sn, e⟩ := e
      rw [e]
      exact (hn hs sn).mono (by omega)
    · rw [hz hs]
      refine Ends.step (n := n + 3) (by simp [M.step, M.say, M.resume, hs]) ?_
      refine Ends.mono (Ends.no ?_) (Nat.zero_le _)
      simp [M.step, M.say, M.resume, hs]
  unfold at1
  by_cases b : s = 0 ∨ text.getD (s - 1) 0 = 10
  · have b' : s = 0 ∨ text[s - 1]?.getD 0 = 10 := by simpa using b
    refine Ends.step (n := n + 9) rfl ?_
    simp [M.step, M.exec, M.word, code1, code2, M.alternative, M.attempt, M.frame, M.keep, ops, accepts, itemWidth, M.say, M.resume, M.putBack, M.isAt, b']
    refine Ends.step (n := n + 8) rfl ?_
    by_cases a : text.size ≤ s
    · have e : ∀ m : M, m.outcome = none → m.answer = none → m.code = code1 → m.pc = 7 → m.lim ≤ m.pos → M.step m = M.say { m with seen := m.seen.add 16 } false := by
        intro m j1 j2 j3 j4 j5
        simp [M.step, M.exec, M.word, j1, j2, j3, j4, j5, code1, ops, M.say]
      rw [e _ rfl rfl rfl rfl a]
      exact (fin _ rfl rfl rfl rfl rfl rfl rfl rfl rfl rfl rfl rfl).mono (by omega)
    · have c : ¬ text.getD s 0 = 46 := fun z => h ⟨b, by omega, z⟩
      have e : ∀ m : M, m.outcome = none → m.answer = none → m.code = code1 → m.pc = 7 → ¬ m.lim ≤ m.pos → ¬ m.text.getD m.pos 0 = 46 → ∃ sn, M.step m = M.say { m with seen := sn } false := by
        intro m j1 j2 j3 j4 j5 j6
        have j7 : (m.text[m.pos]?.getD 0 == 46) = false := by simpa using j6
        refine ⟨m.seen.add 16, ?_⟩
        simp [M.step, M.exec, M.word, j1, j2, j3, j4, j5, code1, ops, accepts, j7]
      refine toSay (e _ rfl rfl rfl rfl (by exact a) (by exact c)) fun sn => ?_
      exact (fin _ rfl rfl rfl rfl rfl rfl rfl rfl rfl rfl rfl rfl).mono (by omega)
  · have b' : ¬ (s = 0 ∨ text[s - 1]?.getD 0 = 10) := by simpa using b
    refine Ends.step (n := n + 9) rfl ?_
    have e : ∀ m : M, m.outcome = none → m.answer = none → m.code = code1 → m.pc = 5 → ¬ (m.pos = 0 ∨ m.text[m.pos - 1]?.getD 0 = 10) → ∃ sn, M.step m = M.say { m with seen := sn } false := by
      intro m j1 j2 j3 j4 j5
      have j6 : ¬ m.pos = 0 := fun z => j5 (.inl z)
      have j7 : ¬ m.text[m.pos - 1]?.getD 0 = 10 := fun z => j5 (.inr z)
      refine ⟨(m.seen.add 6).add 44, ?_⟩
      simp [M.step, M.exec, M.word, j1, j2, j3, j4, code1, ops, M.isAt, j6, j7, M.say]
    refine toSay (e _ rfl rfl rfl rfl (by exact b')) fun sn => ?_
    exact (fin _ rfl rfl rfl rfl rfl rfl rfl rfl rfl rfl rfl rfl).mono (by omega)
theorem run1 (text : Array Nat) : ∀ (n s : Nat) (seen : Seen) (first : Bool), s + n = text.size + 1 → 1 ≤ n → Ends (10 * n) (at1 text s seen first) (find1 text n s)
  | 0, _, _, _, _, h => by omega
  | n + 1, s, seen, first, h, _ => by
    rw [find1]
    by_cases q : ok1 text s
    · rw [if_pos q]; exact (yes1 q).mono (by omega)
    · rw [if_neg q]
      refine (no1 q (find1 text n (s + 1)) (10 * n) (fun hs sn => run1 text n (s + 1) sn false (by omega) (by omega)) fun hs => ?_).mono (by omega)
      have : n = 0 := by omega
      subst this; rfl

def m1 (text : Array Nat) (s last : Nat) : M :=
  { code := code1, text, lim := text.size, start := s, lastStart := last, pc := 5, pos := s, handed := s, marks := #[], seen := ({} : Seen).add 14 }
theorem search1_eq (text : Array Nat) (s : Nat) : forSearch code1 text 0 s text.size false =
    if (decide (s > text.size) || decide (text.size - s < 1)) = true then (m1 text s 0).say false else at1 text s (({} : Seen).add 14) true := rfl
theorem search1 (text : Array Nat) (s : Nat) : Ends (10 * (text.size + 1)) (forSearch code1 text 0 s text.size false) (find1 text (text.size + 1 - s) s) := by
  rw [search1_eq]
  split
  · rename_i h
    have h' : text.size ≤ s := by simp at h; omega
    have e : find1 text (text.size + 1 - s) s = none := by
      cases k : text.size + 1 - s with
      | zero => rfl
      | succ k' =>
        have : k' = 0 := by omega
        subst this
        rw [find1, if_neg (fun z => absurd z.2.1 (by omega))]; rfl
    rw [e]
    exact (Ends.step (m := (m1 text s 0).say false) rfl ((Ends.no rfl).mono (Nat.zero_le 0))).mono (by omega)
  · rename_i h
    have h' : s < text.size := by simp at h; omega
    exact (run1 text (text.size + 1 - s) s _ true (by omega) (by omega)).mono (by omega)
end Mine
end
section
open PySem PySem.Sre PySem.Builtin PySem.Builtin.Re
set_option maxRecDepth 100000
set_option linter.unusedSimpArgs false
namespace Mine
theorem slot_re_sub : Slot "re.Pattern" "sub" "re.Pattern.sub" :=
  .of (owner := "re.Pattern") (n := "sub") (by rw [typeLookup_type, builtinLookup_eq_fast]; kernel_rfl) (by decide +kernel) (by decide +kernel) (by decide +kernel)
    (by first | exact .inl (by decide +kernel) | exact .inr (by decide +kernel)) (by rw [isSubtype_type]; kernel_rfl)
theorem entry_re_sub : entryFor table "re.Pattern.sub" = some Builtin.«re.Pattern.sub» := entryFor_of_fast (by kernel_rfl)
theorem entry_re_loop : entryFor table "re.Pattern.sub.loop" = some Builtin.«re.Pattern.sub.loop» := entryFor_of_fast (by kernel_rfl)
theorem type_re_sub : typeOf (.builtin "re.Pattern.sub") = pure (.type "method_descriptor") := by show builtinType _ = _; rw [builtinType_eq_fast]; kernel_rfl
theorem owner_rePattern : Manifest.owners.lookup (String.ofList ['n', 'r', 'e', 't', 't', 'a', 'P', '.', 'e', 'r'].reverse) = some Manifest.sig_re_Pattern := by kernel_rfl
theorem args_re_sub (a b c : Value) : argsOk "re.Pattern.sub" ⟨[a, b, c], []⟩ := by
  unfold argsOk; rw [signature?_of (id := "re.Pattern.sub") (n := ['b', 'u', 's']) (o := ['n', 'r', 'e', 't', 't', 'a', 'P', '.', 'e', 'r']) (by kernel_rfl) owner_rePattern]; kernel_rfl

section
variable {prog : Program} {w : World} {A : Around} {E : Value → Shared → Prop} {s : Shared}
theorem w_drive {Q : Sre.M → Shared → Prop} : ∀ (turns k : Nat) (m : Sre.M), k ≤ 4 * turns → 1 ≤ turns → (M.runFor k m).outcome.isSome = true → Q (M.runFor k m) s → wpAny (model prog w) A (reDrive turns m) Q E s
  | 0, _, _, _, h, _, _ => by omega
  | turns + 1, k, m, hk, _, ho, hQ => by
    rw [reDrive]
    show wpAny _ _ (if (M.runFor 4 m).outcome.isSome = true then pure (M.runFor 4 m) else do rule "sre.turn"; reDrive turns (M.runFor 4 m)) _ _ _
    by_cases h4 : k ≤ 4
    · have e : M.runFor 4 m = M.runFor k m := by
        obtain ⟨d, hd⟩ : ∃ d, 4 = k + d := ⟨4 - k, by omega⟩
        rw [hd, runFor_add, runFor_stop ho]
      rw [e, if_pos ho]; exact wpAny_pure hQ
    · obtain ⟨d, rfl⟩ : ∃ d, k = 4 + d := ⟨k - 4, by omega⟩
      rw [runFor_add] at ho hQ
      by_cases hs : (M.runFor 4 m).outcome.isSome = true
      · rw [if_pos hs]
        rw [runFor_stop hs] at hQ
        exact wpAny_pure hQ
      · rw [if_neg hs]
        exact wpAny_bind (wpAny_rule (w_drive turns d _ (by omega) (by omega) ho hQ))

theorem w_tells {b : Nat → Bool} {f : Nat → String} {Q : PUnit → Shared → Prop} (hQ : Q ⟨⟩ s) : ∀ l : List Nat,
    wpAny (model prog w) A (forIn l PUnit.unit (fun i _ => if b i = true then (do rule (f i); pure (ForInStep.yield PUnit.unit)) else pure (ForInStep.yield PUnit.unit))) Q E s
  | [] => wpAny_pure hQ
  | i :: l => by
    rw [List.forIn_cons]
    refine wpAny_bind ?_
    split
    · exact wpAny_bind (wpAny_rule (wpAny_pure (w_tells hQ l)))
    · exact wpAny_pure (w_tells hQ l)

theorem w_toEnd {m : Sre.M} {n : Nat} {r : Option (Nat × Nat)} {Q : Option Sre.M → Shared → Prop} (h : Ends n m r) (hn : n ≤ 2 ^ 65)
    (hQ : match r with | some (a, e) => (∀ m', m'.start = a → m'.handed = e → Q (some m') s) | none => Q none s) : wpAny (model prog w) A (reRunToEnd m) Q E s := by
  obtain ⟨k, hk, h⟩ := h
  unfold reRunToEnd
  refine wpAny_bind (w_drive (2 ^ 64) k m (by omega) (by omega) ?_ ?_)
  · cases r with
    | none => rw [h]; rfl
    | some p => rw [h.1]; rfl
  · refine wpAny_bind (w_tells ?_ _)
    cases r with
    | none => rw [h]; exact wpAny_pure hQ
    | some p => rw [h.1]; exact wpAny_pure (hQ _ h.2.1 h.2.2)
end
end Mine
end
section
open PySem PySem.Sre PySem.Builtin PySem.Builtin.Re PySem.Builtin.Str
set_option maxRecDepth 100000
set_option linter.unusedSimpArgs false
namespace Mine
/-- a compiled pattern over strs without groups -/
def IsPat (h : Heap) (P : Addr) (code : Array Nat) : Prop :=
  ∃ C src fl, h.get? P = some { cls := .type "re.Pattern", data := .fields #[src, fl, .int 0 0, .none, .none, .ref C, .int 0 0] } ∧ h.get? C = some { cls := .type "tuple", data := .seq (code.map fun (n : Nat) => Value.int n 0) }
theorem IsPat.keeps {h h' : Heap} {P : Addr} {code : Array Nat} (x : IsPat h P code) (k : ∀ b o, h.get? b = some o → h'.get? b = some o) : IsPat h' P code := by
  obtain ⟨C, src, fl, a, b⟩ := x
  exact ⟨C, src, fl, k _ _ a, k _ _ b⟩
section
variable {prog : Program} {w : World} {A : Around} {E : Value → Shared → Prop} {s : Shared}
theorem w_ifT {α : Type} {M : Model} {Q : α → Shared → Prop} {c : Prop} [Decidable c] {a b : Sem α} (hc : c) (h : wpAny M A a Q E s) : wpAny M A (if c then a else b) Q E s := by rw [if_pos hc]; exact h
theorem w_ifF {α : Type} {M : Model} {Q : α → Shared → Prop} {c : Prop} [Decidable c] {a b : Sem α} (hc : ¬ c) (h : wpAny M A b Q E s) : wpAny M A (if c then a else b) Q E s := by rw [if_neg hc]; exact h
theorem raw_code (code : Array Nat) : ((code.map fun (n : Nat) => Value.int n 0).map reRawOf).map (·.toNat) = code := by
  apply Array.ext
  · simp
  · intro i h1 h2; simp [reRawOf]
theorem w_target {P : Addr} {code : Array Nat} {x : Str} {t : Tok} {Q : ReTarget → Shared → Prop} (hP : IsPat s.heap P code)
    (hQ : Q { pattern := .ref P, string := .str x t, code := code, text := x.cps, kind := 0, groups := 0, pos := 0, lim := x.cps.size } s) :
    wpAny (model prog w) A (reWholeTarget (.ref P) (.str x t)) Q E s := by
  obtain ⟨C, src, fl, h1, h2⟩ := hP
  unfold reWholeTarget
  refine wpAny_bind (wpAny_fieldsOf h1 rfl ?_)
  refine wpAny_bind (wpAny_of_eq (a := (x.cps, 0)) rfl ?_)
  show wpAny _ _ (reRawItems (.ref C) >>= fun c => pure ({ pattern := .ref P, string := .str x t, code := c.map (·.toNat), text := x.cps, kind := 0, groups := 0, pos := 0, lim := x.cps.size } : ReTarget)) Q E s
  refine wpAny_bind ?_
  unfold reRawItems
  refine wpAny_bind (wpAny_seqItems h2 rfl (wpAny_pure (wpAny_pure ?_)))
  show Q _ s
  simp only [Option.getD_some, raw_code]
  exact hQ

theorem upd_push {h : Heap} {l : Addr} {items : Array Value} {v : Value} (hl : h.IsList l items) : (h.update l (Obj.mapSeq (·.push v))).IsList l (items.push v) := by
  obtain ⟨o, ho, hc, n, hd⟩ := hl
  obtain ⟨n', hd'⟩ := Obj.data_mapSeq hd (·.push v)
  exact ⟨_, Heap.get?_update_self _ ho (Obj.isFreed_of_seq hd'), (Obj.cls_mapSeq ..).trans hc, n', hd'⟩
theorem w_push {l : Addr} {items : Array Value} {v : Value} {Q : Unit → Shared → Prop} (hl : s.heap.IsList l items) (hz : items.size ≤ sizeLine)
    (hQ : ∀ h', h'.IsList l (items.push v) → Heap.SameBut l s.heap h' → Q () { s with heap := h' }) : wpAny (model prog w) A (updateSeq l (·.push v)) Q E s := by
  obtain ⟨o, ho, hc, n, hd⟩ := id hl
  exact wpAny_updateSeq ho hd (hQ _ (upd_push hl) (Heap.SameBut.update ..)) hz (by simp; omega)

/-- all but the object at l stays -/
def StaysBut (l : Addr) (h h' : Heap) : Prop := ∀ b o, b ≠ l → h.get? b = some o → h'.get? b = some o
theorem StaysBut.trans {l : Addr} {h h' h'' : Heap} (a : StaysBut l h h') (b : StaysBut l h' h'') : StaysBut l h h'' := fun c o n e => b c o n (a c o n e)
theorem StaysBut.of_same {l : Addr} {h h' : Heap} (a : Heap.SameBut l h h') : StaysBut l h h' := fun c o n e => (a.2 c n).trans e

/-- what sub makes from a place on -/
def subFrom (find : Nat → Option (Nat × Nat)) (text repl : List Nat) : Nat → Nat → List Nat
  | 0, s => text.drop s
  | n + 1, s => match find s with
    | none => text.drop s
    | some (a, e) => (text.drop s).take (a - s) ++ repl ++ subFrom find text repl n e

theorem pat_ne {h : Heap} {P l : Addr} {code : Array Nat} {items : Array Value} (hP : IsPat h P code) (hl : h.IsList l items) {h' : Heap} (k : StaysBut l h h') : IsPat h' P code := by
  obtain ⟨C, src, fl, h1, h2⟩ := hP
  obtain ⟨o, ho, hc, _⟩ := hl
  refine ⟨C, src, fl, k _ _ (fun z => ?_) h1, k _ _ (fun z => ?_) h2⟩
  · subst z; rw [h1] at ho; cases ho; simp at hc
  · subst z; rw [h2] at ho; cases ho; simp at hc
theorem w_slice {x : Array Nat} {b e : Nat} {Q : Value → Shared → Prop} (hx : x.size ≤ 100000) (hQ : Q (.str ⟨x.extract b e⟩ s.toks) { s with toks := s.toks + 1 }) :
    wpAny (model prog w) A (reSlice x 0 b e) Q E s := by
  unfold reSlice
  refine w_ifT (by rfl) ?_
  unfold mkStr
  refine w_ifF (by show ¬ (x.extract b e).size > sizeLine; rw [sizeLine]; simp; omega) ?_
  exact wpAny_bind (wpAny_fresh (wpAny_pure hQ))
theorem strValues_push (ps : List (Str × Tok)) (y : Str) (t : Tok) : (strValues ps).toArray.push (.str y t) = (strValues (ps ++ [(y, t)])).toArray := by
  simp [strValues]
theorem join_nil_cps : ∀ l : List Str, (Str.join ⟨#[]⟩ l).cps.toList = (l.map (·.cps.toList)).flatten
  | [] => rfl
  | [x] => by simp [Str.join]
  | x :: y :: r => by
    show ((x ++ (⟨#[]⟩ : Str)) ++ Str.join ⟨#[]⟩ (y :: r)).cps.toList = _
    rw [Str.cps_append, Str.cps_append, Array.toList_append, Array.toList_append, join_nil_cps (y :: r)]
    simp

theorem sub_loop {P l : Addr} {code : Array Nat} {x r : Str} {t u : Tok} {find : Nat → Option (Nat × Nat)} {R : Result → Shared → Prop} {B : Nat}
    (hB : B ≤ 2 ^ 65) (hf : ∀ st, Ends B (forSearch code x.cps 0 st x.cps.size false) (find st))
    (hp : ∀ st a e, find st = some (a, e) → st ≤ a ∧ a < e ∧ e ≤ x.cps.size) (hx : x.cps.size ≤ 100000) (hr : r.cps.size ≤ 10) :
    ∀ (n : Nat) (st : Nat) (k : Int) (ps : List (Str × Tok)) (s : Shared), x.cps.size - st < n → IsPat s.heap P code → s.heap.IsList l (strValues ps).toArray →
      st ≤ x.cps.size → ps.length ≤ 2 * st → (ps.map (·.1.length)).sum ≤ 11 * st →
      (∀ y t' h' tk', y.cps.toList = (ps.map (·.1.cps.toList)).flatten ++ subFrom find x.cps.toList r.cps.toList n st → StaysBut l s.heap h' → R (.ok (.ret (.str y t'))) { s with heap := h', toks := tk' }) →
      codeAny (model prog w) A (.builtin "re.Pattern.sub.loop" ⟨[.ref P, .str x t, .str r u, rawInt 0, rawInt 0, rawInt k, rawInt st, rawInt st, .bool false, .ref l, .bool false], []⟩) R s
  | 0, _, _, _, _, h, _, _, _, _, _, _ => by omega
  | n + 1, st, k, ps, s, hn, hP, hl, hst, hps, hsum, hR => by
    refine codeAny_builtin entry_re_loop ?_
    show wpAny _ _ (reWholeTarget (.ref P) (.str x t) >>= _) _ _ _
    refine wpAny_bind (w_target hP ?_)
    dsimp only [rawInt]
    refine w_ifT (by rfl) ?_
    refine wpAny_bind (wpAny_of_eq (a := ()) rfl ?_)
    refine wpAny_bind ?_
    refine w_ifF (by simp) ?_
    unfold reNextFound
    simp only [Int.toNat_natCast]
    have szl : sizeLine = 16777216 := rfl
    refine w_toEnd (hf st) hB ?_
    cases hfi : find st with
    | none =>
      dsimp only
      have fin : ∀ (ps' : List (Str × Tok)) (s' : Shared), (∃ h' tk', s' = { s with heap := h', toks := tk' } ∧ StaysBut l s.heap h') → s'.heap.IsList l (strValues ps').toArray → (ps'.map (·.1.length)).sum ≤ 1200000 → (ps'.map (·.1.cps.toList)).flatten = (ps.map (·.1.cps.toList)).flatten ++ x.cps.toList.drop st →
          wpAny (model prog w) (A.under (.builtin "re.Pattern.sub.loop" ⟨[.ref P, .str x t, .str r u, .int 0 0, .int 0 0, .int k 0, .int st 0, .int st 0, .bool false, .ref l, .bool false], []⟩))
            (do
              let joiner ← reSlice x.cps 0 0 0
              let items ← seqItems? (Value.ref l)
              if (items.getD #[]).isEmpty = true then do
                let text ← pure joiner
                if false = true then do
                    let __do_lift ← holding [text] (do let __do_lift ← mkInt k; newTuple [text, __do_lift])
                    ret __do_lift
                  else ret text
              else do
                let text ← call (Value.builtin (if (0 == 0) = true then "str.join" else "bytes.join")) [joiner, Value.ref l]
                if false = true then do
                    let __do_lift ← holding [text] (do let __do_lift ← mkInt k; newTuple [text, __do_lift])
                    ret __do_lift
                  else ret text)
            (fun fin s' => match fin with | .done f => R (.ok f) s' | .again c' => c'.quiet = true ∧ codeAny (model prog w) A c' R s') (fun e s' => R (.error e) s') s' := by
        intro ps' s' hs' hl' hsm hfl
        obtain ⟨h', tk', rfl, hb⟩ := hs'
        refine wpAny_bind (w_slice hx ?_)
        obtain ⟨o, ho, hc, nn, hd⟩ := id hl'
        refine wpAny_bind (wpAny_seqItems ho hd ?_)
        have hsub : subFrom find x.cps.toList r.cps.toList (n + 1) st = x.cps.toList.drop st := by rw [subFrom, hfi]
        split
        · rename_i he
          have hnil : ps' = [] := by
            simp [strValues] at he
            exact he
          subst hnil
          refine wpAny_bind (wpAny_pure ?_)
          refine w_ifF Bool.false_ne_true ?_
          refine wpAny_pure (hR _ _ _ _ ?_ hb)
          rw [hsub, ← hfl]
          simp
        · refine wpAny_bind ?_
          rw [if_pos (by rfl)]
          refine SC.join hl' rfl ?_ ?_
          · unfold JoinOk
            rw [Bool.not_eq_true', StrLaws.joinTotal]
            unfold tooLong
            rw [szl]
            refine decide_eq_false ?_
            have e0 : (⟨x.cps.extract 0 0⟩ : Str).length = 0 := by simp [Str.length]
            rw [e0, List.map_map, Nat.mul_zero]
            show ¬ ((ps'.map (·.1.length)).sum + 0 > 16777216)
            omega
          · intro t' k'
            refine w_ifF Bool.false_ne_true ?_
            refine wpAny_pure (hR _ _ _ _ ?_ hb)
            rw [hsub, ← hfl]
            show (glued _ _).cps.toList = _
            rw [StrLaws.glued_eq_join, show (⟨x.cps.extract 0 0⟩ : Str) = ⟨#[]⟩ by simp, join_nil_cps, List.map_map]
            rfl
      split
      · rename_i hlt
        refine wpAny_bind (w_slice hx (wpAny_bind (w_push hl (by simp [strValues, szl]; omega) fun h' hl' hs' => ?_)))
        rw [strValues_push] at hl'
        refine fin _ _ ⟨h', _, rfl, .of_same hs'⟩ hl' ?_ ?_
        · have : (⟨x.cps.extract st x.cps.size⟩ : Str).length ≤ x.cps.size := by simp [Str.length]
          simp only [List.map_append, List.map_cons, List.map_nil, List.sum_append, List.sum_cons, List.sum_nil]
          omega
        · simp
          exact List.take_of_length_le (by simp)
      · rename_i hlt
        refine fin ps s ⟨s.heap, s.toks, rfl, fun _ _ _ e => e⟩ hl (by omega) ?_
        rw [List.drop_eq_nil_of_le (by simp; omega)]; simp
    | some q =>
      obtain ⟨a, e⟩ := q
      obtain ⟨p1, p2, p3⟩ := hp st a e hfi
      intro m' hm1 hm2
      dsimp only
      rw [hm1, hm2]
      have go : ∀ (ps' : List (Str × Tok)) (s' : Shared), (∃ h' tk', s' = { s with heap := h', toks := tk' } ∧ StaysBut l s.heap h') → s'.heap.IsList l (strValues ps').toArray → ps'.length ≤ 2 * st + 1 → (ps'.map (·.1.length)).sum ≤ 11 * st + (a - st) → (ps'.map (·.1.cps.toList)).flatten = (ps.map (·.1.cps.toList)).flatten ++ (x.cps.toList.drop st).take (a - st) →
          wpAny (model prog w) (A.under (.builtin "re.Pattern.sub.loop" ⟨[.ref P, .str x t, .str r u, .int 0 0, .int 0 0, .int k 0, .int st 0, .int st 0, .bool false, .ref l, .bool false], []⟩))
            (do
              updateSeq l fun x => x.push (Value.str r u)
              again (Code.builtin "re.Pattern.sub.loop" ⟨[.ref P, .str x t, .str r u, .int 0 0, .int 0 0, .int (k + 1) 0, .int e 0, .int e 0, .bool (e == a), .ref l, .bool false], []⟩))
            (fun fin s' => match fin with | .done f => R (.ok f) s' | .again c' => c'.quiet = true ∧ codeAny (model prog w) A c' R s') (fun e s' => R (.error e) s') s' := by
        intro ps' s' hs' hl' hln hsm hfl
        obtain ⟨h', tk', rfl, hb⟩ := hs'
        refine wpAny_bind (w_push hl' (by simp [strValues, szl]; omega) fun h'' hl'' hs'' => wpAny_pure ⟨plainId_quiet (by decide +kernel) _, ?_⟩)
        rw [strValues_push] at hl''
        have hea : (e == a) = false := by simp; omega
        rw [hea]
        have hb' := hb.trans (.of_same hs'')
        refine sub_loop hB hf hp hx hr n e (k + 1) _ _ (by omega) (pat_ne hP hl hb') hl'' p3 ?_ ?_ ?_
        · simp; omega
        · have : r.length ≤ 10 := hr
          simp only [List.map_append, List.map_cons, List.map_nil, List.sum_append, List.sum_cons, List.sum_nil]
          omega
        · intro y t' h3 tk3 hy hk
          refine hR y t' h3 tk3 ?_ (hb'.trans hk)
          rw [hy, subFrom, hfi]
          simp only [List.map_append, List.map_cons, List.map_nil, List.flatten_append, List.flatten_cons, List.flatten_nil, hfl, List.append_nil, List.append_assoc]
      split
      · rename_i hlt
        refine wpAny_bind (w_slice hx (wpAny_bind (w_push hl (by simp [strValues, szl]; omega) fun h' hl' hs' => ?_)))
        rw [strValues_push] at hl'
        refine w_ifT (by rfl) ?_
        refine wpAny_bind (wpAny_pure ?_)
        refine w_ifT (by rfl) ?_
        refine go _ _ ⟨h', _, rfl, .of_same hs'⟩ hl' ?_ ?_ ?_
        · simp; omega
        · have : (⟨x.cps.extract st a⟩ : Str).length ≤ a - st := by simp [Str.length]; omega
          simp only [List.map_append, List.map_cons, List.map_nil, List.sum_append, List.sum_cons, List.sum_nil]
          omega
        · simp
      · rename_i hlt
        refine w_ifT (by rfl) ?_
        refine wpAny_bind (wpAny_pure ?_)
        refine w_ifT (by rfl) ?_
        refine go ps s ⟨s.heap, s.toks, rfl, fun _ _ _ e => e⟩ hl (by omega) (by omega) ?_
        rw [show a - st = 0 by omega]; simp
end
end Mine
end
section
open PySem PySem.Sre PySem.Builtin PySem.Builtin.Re PySem.Builtin.Str
set_option maxRecDepth 100000
set_option linter.unusedSimpArgs false
namespace Mine
theorem str_call_none : typeLookup (.type "str") "__call__" = pure none := by rw [typeLookup_type, builtinLookup_eq_fast]; kernel_rfl
theorem pat_getattribute : typeLookup (.type "re.Pattern") "__getattribute__" = pure (some (.builtin "re.Pattern.__getattribute__")) ∨ True := .inr trivial
section
variable {prog : Program} {w : World} {A : Around} {E : Value → Shared → Prop} {s : Shared}
theorem named_sub (r x : Value) : reNamed "re.Pattern.sub" "sub" ["repl", "string", "count"] 2 [r, x] [] = pure [some r, some x, none] := by
  rfl
theorem call_sub {P : Addr} {code : Array Nat} {x r : Str} {t u : Tok} {find : Nat → Option (Nat × Nat)} {Q : Value → Shared → Prop} {B : Nat} (hP : IsPat s.heap P code)
    (hB : B ≤ 2 ^ 65) (hf : ∀ st, Ends B (forSearch code x.cps 0 st x.cps.size false) (find st))
    (hp : ∀ st a e, find st = some (a, e) → st ≤ a ∧ a < e ∧ e ≤ x.cps.size) (hx : x.cps.size ≤ 100000) (hr : r.cps.size ≤ 10) (hb : r.cps.contains 92 = false)
    (hQ : ∀ y t' h' tk', y.cps.toList = subFrom find x.cps.toList r.cps.toList (x.cps.size + 1) 0 → s.heap.StaysIn h' → Q (.str y t') { s with heap := h', toks := tk' }) :
    wpAny (model prog w) A (call (.builtin "re.Pattern.sub") [.ref P, .str r u, .str x t]) Q E s := by
  have hT : s.TypeIs (.ref P) "re.Pattern" := by obtain ⟨C, src, fl, h1, h2⟩ := hP; exact ⟨_, h1, rfl⟩
  refine wpAny_call (codeAny_call_builtin slot_re_sub.plain entry_re_sub (slot_re_sub.check _ _ _ _ _ _ _ _ hT (args_re_sub _ _ _) ?_))
  show wpAny _ _ (reNamed "re.Pattern.sub" "sub" ["repl", "string", "count"] 2 [.str r u, .str x t] [] >>= _) _ _ _
  refine wpAny_bind (wpAny_of_eq (named_sub _ _) ?_)
  refine wpAny_bind (wpAny_of_eq (a := (0 : Int)) rfl ?_)
  refine wpAny_bind (wpAny_specialOf (typeIs_str _ _ _) str_call_none ?_)
  refine wpAny_bind (wpAny_of_eq (a := some r) rfl ?_)
  dsimp only
  rw [hb]
  refine wpAny_bind (wpAny_pure ?_)
  refine w_ifF (by simp) ?_
  refine w_ifT (by rfl) ?_
  refine wpAny_bind (wpAny_pure ?_)
  refine wpAny_bind (wpAny_holding (w_target hP ?_))
  show wpAny _ _ (newList [] >>= _) _ _ _
  refine wpAny_bind (wpAny_newList ?_ (by simp))
  refine wpAny_pure ⟨plainId_quiet (by decide +kernel) _, ?_⟩
  have hk : s.heap.StaysIn (s.heap.push { cls := .type "list", data := .seq #[] }) := fun b o e => Heap.get?_push_of_some _ e
  refine sub_loop hB hf hp hx hr (x.cps.size + 1) 0 0 [] _ (by omega) (hP.keeps hk) ⟨_, Heap.get?_push_size _ rfl, rfl, 0, rfl⟩ (by omega) (by simp) (by simp) ?_
  intro y t' h' tk' hy hs
  refine hQ y t' h' tk' (by simpa using hy) fun b o e => hs b o (Nat.ne_of_lt (Heap.lt_size e)) (hk b o e)
end
end Mine
end
section
open PySem PySem.Sre
set_option maxRecDepth 100000
set_option linter.unusedSimpArgs false
namespace Mine
/-- line ends made CR LF; p: the sign before was a CR -/
def fixG : Bool → List Nat → List Nat
  | _, [] => []
  | p, c :: r => if c = 10 then (if p then fixG false r else 13 :: 10 :: fixG false r) else if c = 13 then 13 :: 10 :: fixG true r else c :: fixG false r
/-- a dot at a row's start made two; b: at a row's start -/
def dotG : Bool → List Nat → List Nat
  | _, [] => []
  | b, c :: r => if b = true ∧ c = 46 then 46 :: 46 :: dotG false r else c :: dotG (decide (c = 10)) r

theorem drop_cons {l : List Nat} {i : Nat} (h : i < l.length) : l.drop i = l.getD i 0 :: l.drop (i + 1) := by
  rw [List.drop_eq_getElem_cons h, List.getD_eq_getElem?_getD, List.getElem?_eq_getElem h]; rfl
theorem getD_list (t : Array Nat) (i : Nat) : t.getD i 0 = t.toList.getD i 0 := by simp

theorem fixG_plain : ∀ (l : List Nat), (∀ c ∈ l, c ≠ 10 ∧ c ≠ 13) → ∀ r, fixG false (l ++ r) = l ++ fixG false r
  | [], _, _ => rfl
  | c :: l, h, r => by
    have hc := h c (by simp)
    rw [List.cons_append, fixG, if_neg hc.1, if_neg hc.2, fixG_plain l (fun d hd => h d (by simp [hd])) r]; rfl

theorem end2_low (text : Array Nat) : ∀ n s, ∀ j, s ≤ j → (∀ i, end2 text n s = some i → j < i) → (end2 text n s = none → j < s + n) → text.getD j 0 ≠ 10 ∧ text.getD j 0 ≠ 13
  | 0, s, j, h1, _, h2 => by have := h2 rfl; omega
  | n + 1, s, j, h1, h2, h3 => by
    rw [end2] at h2 h3
    by_cases hn : text.getD s 0 = 10 ∨ text.getD s 0 = 13
    · rw [if_pos hn] at h2
      have := h2 s rfl; omega
    · rw [if_neg hn] at h2 h3
      by_cases hj : j = s
      · subst hj; exact ⟨fun z => hn (.inl z), fun z => hn (.inr z)⟩
      · exact end2_low text n (s + 1) j (by omega) h2 (fun e => by have := h3 e; omega)

theorem plain_piece {text : Array Nat} {s i : Nat} (hi : i ≤ text.size) (h : ∀ j, s ≤ j → j < i → text.getD j 0 ≠ 10 ∧ text.getD j 0 ≠ 13) : ∀ c ∈ (text.toList.drop s).take (i - s), c ≠ 10 ∧ c ≠ 13 := by
  intro c hc
  obtain ⟨k, hk, rfl⟩ := List.mem_iff_getElem.mp hc
  simp at hk
  have := h (s + k) (by omega) (by omega)
  rw [getD_list, List.getD_eq_getElem?_getD, List.getElem?_eq_getElem (by simp; omega)] at this
  simpa using this

theorem find2_prog (text : Array Nat) (st a e : Nat) (h : find2 text st = some (a, e)) : st ≤ a ∧ a < e ∧ e ≤ text.size := by
  unfold find2 at h
  cases hi : end2 text (text.size - st) st with
  | none => rw [hi] at h; cases h
  | some i =>
    rw [hi] at h
    obtain ⟨p, q, r⟩ := end2_spec text _ _ _ hi
    simp only [Option.map_some, Option.some.injEq, Prod.mk.injEq] at h
    obtain ⟨rfl, h⟩ := h
    split at h
    · rename_i hh
      refine ⟨p, by omega, ?_⟩
      refine Nat.le_of_not_lt fun hlt => ?_
      have : text.getD (i + 1) 0 = 0 := by simp [Array.getElem?_eq_none (show text.size ≤ i + 1 by omega)]
      omega
    · exact ⟨p, by omega, by omega⟩

theorem sub2 (text : Array Nat) : ∀ n st, text.size - st < n → subFrom (find2 text) text.toList [13, 10] n st = fixG false (text.toList.drop st)
  | 0, st, h => by omega
  | n + 1, st, h => by
    rw [subFrom]
    cases hf : find2 text st with
    | none =>
      dsimp only
      have hi : end2 text (text.size - st) st = none := by
        unfold find2 at hf
        cases hi : end2 text (text.size - st) st with
        | none => rfl
        | some i => rw [hi] at hf; cases hf
      have := plain_piece (text := text) (s := st) (i := text.size) (Nat.le_refl _) (fun j h1 h2 => end2_low text _ _ j h1 (fun i e => by rw [hi] at e; cases e) (fun _ => by omega))
      rw [List.take_of_length_le (by simp)] at this
      have e := fixG_plain _ this []
      simpa [fixG] using e.symm
    | some q =>
      obtain ⟨a, e⟩ := q
      dsimp only
      obtain ⟨p1, p2, p3⟩ := find2_prog text st a e hf
      rw [sub2 text n e (by omega)]
      unfold find2 at hf
      cases hi : end2 text (text.size - st) st with
      | none => rw [hi] at hf; cases hf
      | some i =>
        rw [hi] at hf
        obtain ⟨q1, q2, q3⟩ := end2_spec text _ _ _ hi
        simp only [Option.map_some, Option.some.injEq, Prod.mk.injEq] at hf
        obtain ⟨rfl, hf⟩ := hf
        have hpl := plain_piece (text := text) (s := st) (i := i) (by omega) (fun j h1 h2 => end2_low text _ _ j h1 (fun i' e => by rw [hi] at e; cases e; exact h2) (fun e => by rw [hi] at e; cases e))
        have hd : text.toList.drop st = (text.toList.drop st).take (i - st) ++ text.toList.drop i := by
          conv => lhs; rw [← List.take_append_drop (i - st) (text.toList.drop st)]
          rw [List.drop_drop, show st + (i - st) = i by omega]
        conv => rhs; rw [hd]
        rw [fixG_plain _ hpl, List.append_assoc]
        congr 1
        rw [drop_cons (l := text.toList) (i := i) (by simp; omega), fixG, ← getD_list]
        rcases q3 with q3 | q3
        · rw [q3, if_pos rfl]
          simp only [Bool.false_eq_true, if_false]
          rw [q3, if_neg (by simp)] at hf
          subst hf; rfl
        · rw [q3, if_neg (by decide), if_pos rfl]
          by_cases q4 : text.getD (i + 1) 0 = 10
          · rw [if_pos ⟨q3, q4⟩] at hf
            subst hf
            rw [drop_cons (l := text.toList) (i := i + 1) (by simp; omega), fixG, ← getD_list, if_pos q4]
            rfl
          · rw [if_neg (fun z => q4 z.2)] at hf
            subst hf
            by_cases hz : i + 1 < text.size
            · rw [drop_cons (l := text.toList) (i := i + 1) (by simp; omega), fixG, fixG, ← getD_list, if_neg q4, if_neg q4]; rfl
            · rw [List.drop_eq_nil_of_le (by simp; omega)]; rfl

def flag1 (text : Array Nat) (s : Nat) : Bool := decide (s = 0 ∨ text.getD (s - 1) 0 = 10)
theorem find1_spec (text : Array Nat) : ∀ k st, st + k = text.size + 1 → match find1 text k st with
    | none => dotG (flag1 text st) (text.toList.drop st) = text.toList.drop st
    | some (a, e) => e = a + 1 ∧ st ≤ a ∧ a < text.size ∧ text.getD a 0 = 46 ∧ dotG (flag1 text st) (text.toList.drop st) = (text.toList.drop st).take (a - st) ++ [46, 46] ++ dotG false (text.toList.drop (a + 1))
  | 0, st, h => by
    rw [find1]
    show dotG _ _ = _
    rw [List.drop_eq_nil_of_le (by simp; omega)]; rfl
  | k + 1, st, h => by
    rw [find1]
    by_cases ho : ok1 text st
    · rw [if_pos ho]
      obtain ⟨h1, h2, h3⟩ := ho
      refine ⟨rfl, Nat.le_refl _, h2, h3, ?_⟩
      rw [drop_cons (by simpa using h2), dotG, ← getD_list, if_pos ⟨by simpa [flag1] using h1, h3⟩]
      simp
    · rw [if_neg ho]
      have ih := find1_spec text k (st + 1) (by omega)
      by_cases hs : st < text.size
      · have hd := drop_cons (l := text.toList) (i := st) (by simpa using hs)
        have e1 : dotG (flag1 text st) (text.toList.drop st) = text.getD st 0 :: dotG (flag1 text (st + 1)) (text.toList.drop (st + 1)) := by
          rw [hd, dotG, ← getD_list, if_neg (fun z => ho ⟨by simpa [flag1] using z.1, hs, z.2⟩)]
          congr 2
          simp [flag1]
        cases hf : find1 text k (st + 1) with
        | none => rw [hf] at ih; dsimp only at ih ⊢; rw [e1, ih, hd, ← getD_list]
        | some q =>
          obtain ⟨a, e⟩ := q
          rw [hf] at ih
          obtain ⟨i1, i2, i3, i4, i5⟩ := ih
          refine ⟨i1, by omega, i3, i4, ?_⟩
          rw [e1, i5, hd, ← getD_list, show a - st = (a - (st + 1)) + 1 by omega]
          simp
      · have : k = 0 := by omega
        subst this
        rw [find1]
        show dotG _ _ = _
        rw [List.drop_eq_nil_of_le (by simp; omega)]; rfl

theorem sub1 (text : Array Nat) : ∀ n st, text.size - st < n → st ≤ text.size → subFrom (fun st => find1 text (text.size + 1 - st) st) text.toList [46, 46] n st = dotG (flag1 text st) (text.toList.drop st)
  | 0, st, h, _ => by omega
  | n + 1, st, h, hs => by
    have sp := find1_spec text (text.size + 1 - st) st (by omega)
    rw [subFrom]
    cases hf : find1 text (text.size + 1 - st) st with
    | none => rw [hf] at sp; exact sp.symm
    | some q =>
      obtain ⟨a, e⟩ := q
      rw [hf] at sp
      obtain ⟨i1, i2, i3, i4, i5⟩ := sp
      dsimp only
      subst i1
      rw [sub1 text n (a + 1) (by omega) (by omega), i5]
      have : flag1 text (a + 1) = false := by simp only [flag1, Nat.add_sub_cancel, i4]; simp
      rw [this]
theorem find1_prog (text : Array Nat) (st a e : Nat) (h : find1 text (text.size + 1 - st) st = some (a, e)) : st ≤ a ∧ a < e ∧ e ≤ text.size := by
  by_cases hs : st ≤ text.size
  · have sp := find1_spec text (text.size + 1 - st) st (by omega)
    rw [h] at sp
    exact ⟨sp.2.1, by omega, by omega⟩
  · rw [show text.size + 1 - st = 0 by omega] at h; cases h

def fixS (x : Str) : Str := ⟨(fixG false x.cps.toList).toArray⟩
def dotS (x : Str) : Str := ⟨(dotG true x.cps.toList).toArray⟩
def quoteS (x : Str) : Str := dotS (fixS x)
section
variable {prog : Program} {w : World} {A : Around} {E : Value → Shared → Prop} {s : Shared}
theorem call_fix {P : Addr} {x : Str} {t u : Tok} {Q : Value → Shared → Prop} (hP : IsPat s.heap P code2) (hx : x.cps.size ≤ 100000)
    (hQ : ∀ t' h' tk', s.heap.StaysIn h' → Q (.str (fixS x) t') { s with heap := h', toks := tk' }) :
    wpAny (model prog w) A (call (.builtin "re.Pattern.sub") [.ref P, .str (Str.ofString "\r\n") u, .str x t]) Q E s := by
  refine call_sub hP (B := 50) (by omega) (fun st => search2 x.cps st) (find2_prog x.cps) hx (by decide +kernel) (by decide +kernel) ?_
  intro y t' h' tk' hy hk
  have e : (Str.ofString "\r\n").cps.toList = [13, 10] := by decide +kernel
  rw [e, sub2 x.cps _ 0 (by omega), List.drop_zero] at hy
  have : y = fixS x := by
    apply Str.ext'
    apply Array.toList_inj.mp
    rw [hy]; rfl
  rw [this]
  exact hQ t' h' tk' hk
theorem call_dot {P : Addr} {x : Str} {t u : Tok} {Q : Value → Shared → Prop} (hP : IsPat s.heap P code1) (hx : x.cps.size ≤ 100000)
    (hQ : ∀ t' h' tk', s.heap.StaysIn h' → Q (.str (dotS x) t') { s with heap := h', toks := tk' }) :
    wpAny (model prog w) A (call (.builtin "re.Pattern.sub") [.ref P, .str (Str.ofString "..") u, .str x t]) Q E s := by
  refine call_sub hP (B := 10 * (x.cps.size + 1)) (by omega) (fun st => search1 x.cps st) (find1_prog x.cps) hx (by decide +kernel) (by decide +kernel) ?_
  intro y t' h' tk' hy hk
  have e : (Str.ofString "..").cps.toList = [46, 46] := by decide +kernel
  rw [e, sub1 x.cps _ 0 (by omega) (by omega), List.drop_zero] at hy
  have : y = dotS x := by
    apply Str.ext'
    apply Array.toList_inj.mp
    rw [hy]; rfl
  rw [this]
  exact hQ t' h' tk' hk
end
end Mine
end
section
open PySem PySem.Builtin PySem.Builtin.Str PySem.StrLaws
set_option maxRecDepth 100000
set_option linter.unusedSimpArgs false
namespace Mine
/-- every line end made one LF; p: the sign before was a CR -/
def normG : Bool → List Nat → List Nat
  | _, [] => []
  | p, c :: r => if c = 10 then (if p then normG false r else 10 :: normG false r) else if c = 13 then 10 :: normG true r else c :: normG false r
def rep2 : List Nat → List Nat
  | [] => []
  | [a] => [a]
  | a :: b :: r => if a = 13 ∧ b = 10 then 10 :: rep2 r else a :: rep2 (b :: r)
def lf (c : Nat) : Nat := if c = 13 then 10 else c
theorem norm_true {l : List Nat} (h : l.head? ≠ some 10) : normG true l = normG false l := by
  cases l with
  | nil => rfl
  | cons c r =>
    have hc : c ≠ 10 := fun z => h (by simp [z])
    simp [normG, hc]
theorem rep2_norm : ∀ (n : Nat) (l : List Nat), l.length ≤ n → (rep2 l).map lf = normG false l
  | _, [], _ => rfl
  | _, [a], _ => by
    by_cases h1 : a = 10
    · subst h1; rfl
    · by_cases h2 : a = 13
      · subst h2; rfl
      · simp [rep2, normG, lf, h1, h2]
  | 0, a :: b :: r, h => by simp at h
  | n + 1, a :: b :: r, h => by
    rw [rep2]
    by_cases hc : a = 13 ∧ b = 10
    · obtain ⟨rfl, rfl⟩ := hc
      simp only [and_self, if_true, List.map_cons]
      rw [rep2_norm n r (by simp at h; omega)]
      simp [normG, lf]
    · rw [if_neg hc, List.map_cons, rep2_norm n (b :: r) (by simp at h ⊢; omega)]
      by_cases h1 : a = 10
      · subst h1
        conv => rhs; rw [normG]
        simp [lf]
      · by_cases h2 : a = 13
        · subst h2
          have hb : b ≠ 10 := fun z => hc ⟨rfl, z⟩
          conv => rhs; rw [normG]
          rw [norm_true (by simpa using hb)]
          simp [lf]
        · conv => rhs; rw [normG]
          simp [lf, h1, h2]
theorem rep2_len : ∀ (n : Nat) (l : List Nat), l.length ≤ n → (rep2 l).length ≤ l.length
  | _, [], _ => by simp [rep2]
  | _, [a], _ => by simp [rep2]
  | 0, a :: b :: r, h => by simp at h
  | n + 1, a :: b :: r, h => by
    rw [rep2]
    split
    · have := rep2_len n r (by simp at h; omega)
      simp; omega
    · have := rep2_len n (b :: r) (by simp at h ⊢; omega)
      simp at this ⊢; omega

def crlf : Str := ⟨#[13, 10]⟩
theorem at_crlf {x : Str} {k : Nat} : At x crlf x.length k ↔ k + 1 < x.cps.toList.length ∧ x.cps.toList.getD k 0 = 13 ∧ x.cps.toList.getD (k + 1) 0 = 10 := by
  have hl : x.length = x.cps.toList.length := by simp [Str.length]
  show (k + crlf.length ≤ x.length ∧ subAt x crlf k = true) ↔ _
  rw [subAt_eq]
  have e2 : crlf.length = 2 := rfl
  rw [e2, hl]
  constructor
  · rintro ⟨h1, h2⟩
    have h3 : k < x.cps.toList.length := by omega
    have h4 : k + 1 < x.cps.toList.length := by omega
    rw [drop_cons h3, drop_cons h4] at h2
    simp [crlf] at h2
    exact ⟨h4, by simpa using h2.1, by simpa using h2.2⟩
  · rintro ⟨h1, h2, h3⟩
    refine ⟨by omega, ?_⟩
    rw [drop_cons (show k < x.cps.toList.length by omega), drop_cons h1, h2, h3]
    rfl
theorem rep2_skip {l : List Nat} {k : Nat} (hk : k < l.length) (h : ¬ (k + 1 < l.length ∧ l.getD k 0 = 13 ∧ l.getD (k + 1) 0 = 10)) : rep2 (l.drop k) = l.getD k 0 :: rep2 (l.drop (k + 1)) := by
  rw [drop_cons hk]
  by_cases h1 : k + 1 < l.length
  · rw [drop_cons h1, rep2, if_neg (fun z => h ⟨h1, z.1, z.2⟩)]
  · rw [List.drop_eq_nil_of_le (by omega)]; rfl
theorem rep2_hit {l : List Nat} {k : Nat} (h : k + 1 < l.length ∧ l.getD k 0 = 13 ∧ l.getD (k + 1) 0 = 10) : rep2 (l.drop k) = 10 :: rep2 (l.drop (k + 2)) := by
  rw [drop_cons (show k < l.length by omega), drop_cons h.1, rep2, if_pos ⟨h.2.1, h.2.2⟩]
theorem rep2_seg {x : Str} : ∀ (n a c : Nat), c = a + n → c ≤ x.cps.toList.length → (∀ k, a ≤ k → k < c → ¬ At x crlf x.length k) → rep2 (x.cps.toList.drop a) = (x.cps.toList.drop a).take (c - a) ++ rep2 (x.cps.toList.drop c)
  | 0, a, c, h, _, _ => by rw [show c = a by omega]; simp
  | n + 1, a, c, h, hc, hn => by
    have h1 : a < x.cps.toList.length := by omega
    rw [rep2_skip h1 (fun z => hn a (Nat.le_refl _) (by omega) (at_crlf.mpr z)), rep2_seg n (a + 1) c (by omega) hc (fun k h1 h2 => hn k (by omega) h2)]
    rw [show c - a = (c - (a + 1)) + 1 by omega, drop_cons h1]
    simp
theorem rep2_parts (x : Str) : ∀ (cuts : List Nat) (a f : Nat), a ≤ x.cps.toList.length → ChainG x crlf x.length a cuts f → (∀ k, f ≤ k → ¬ At x crlf x.length k) →
    (Str.join ⟨#[10]⟩ (partsFrom x 2 a cuts)).cps.toList = rep2 (x.cps.toList.drop a)
  | [], a, f, ha, h, hn => by
    have e : f = a := h
    subst e
    show (strSub x f x.length).cps.toList = _
    rw [strSub_toList, rep2_seg (x.cps.toList.length - f) f x.cps.toList.length (by omega) (Nat.le_refl _) (fun k h1 _ => hn k h1)]
    have : rep2 (List.drop x.cps.toList.length x.cps.toList) = [] := by rw [List.drop_eq_nil_of_le (Nat.le_refl _)]; rfl
    rw [this]; simp [Str.length]
  | c :: r, a, f, ha, h, hn => by
    obtain ⟨h1, h2, h3, h4⟩ := h
    have h2' := at_crlf.mp h2
    have ih := rep2_parts x r (c + 2) f (by omega) h4 hn
    obtain ⟨p, q, e⟩ := partsFrom_ne x 2 (c + 2) r
    have ej : Str.join ⟨#[10]⟩ (partsFrom x 2 a (c :: r)) = strSub x a c ++ ⟨#[10]⟩ ++ Str.join ⟨#[10]⟩ (partsFrom x 2 (c + 2) r) := by
      show Str.join ⟨#[10]⟩ (strSub x a c :: partsFrom x 2 (c + 2) r) = _
      rw [e]; rfl
    rw [ej, Str.cps_append, Str.cps_append, Array.toList_append, Array.toList_append, ih, strSub_toList]
    rw [rep2_seg (c - a) a c (by omega) (by omega) h3, rep2_hit h2']
    simp
theorem replace_crlf (x : Str) : (Txt.replace x crlf ⟨#[10]⟩).cps.toList = rep2 x.cps.toList := by
  obtain ⟨f, h1, h2⟩ := occ_tight x crlf (by decide)
  have key := rep2_parts x _ 0 f (by omega) h1 h2
  rw [List.drop_zero] at key
  unfold Txt.replace
  rw [show (crlf.length == 0) = false from rfl, Bool.false_and, Bool.or_false]
  split
  · rename_i he
    rw [List.isEmpty_iff.mp he] at key
    rw [← key]
    show x.cps.toList = (strSub x 0 x.length).cps.toList
    rw [sub_whole]
  · rw [glued_eq_join, partsBetween_eq]; exact key
theorem map_join : ∀ ps : List Str, (∀ p ∈ ps, 13 ∉ p.cps.toList) → (Str.join ⟨#[13]⟩ ps).cps.toList.map lf = (Str.join ⟨#[10]⟩ ps).cps.toList
  | [], _ => rfl
  | [p], h => by
    show p.cps.toList.map lf = p.cps.toList
    refine (List.map_congr_left (g := _root_.id) fun c hc => ?_).trans (List.map_id _)
    have : c ≠ 13 := fun z => h p (by simp) (z ▸ hc)
    simp [lf, this]
  | p :: q :: r, h => by
    have ih := map_join (q :: r) fun a ha => h a (List.mem_cons_of_mem _ ha)
    have hp : p.cps.toList.map lf = p.cps.toList := by
      refine (List.map_congr_left (g := _root_.id) fun c hc => ?_).trans (List.map_id _)
      have : c ≠ 13 := fun z => h p (by simp) (z ▸ hc)
      simp [lf, this]
    show (p ++ ⟨#[13]⟩ ++ Str.join ⟨#[13]⟩ (q :: r)).cps.toList.map lf = (p ++ ⟨#[10]⟩ ++ Str.join ⟨#[10]⟩ (q :: r)).cps.toList
    simp only [Str.cps_append, Array.toList_append, List.map_append, ih, hp]
    rfl
theorem replace_cr (x : Str) : (Txt.replace x ⟨#[13]⟩ ⟨#[10]⟩).cps.toList = x.cps.toList.map lf := by
  rw [replace_one, ← map_join _ (split_free x 13), join_split]

/-- first sign c splits alike -/
theorem cut_unique {c : Nat} : ∀ {a b u v : List Nat}, c ∉ a → c ∉ b → a ++ c :: u = b ++ c :: v → a = b ∧ u = v
  | [], [], _, _, _, _, h => by simpa using h
  | [], y :: b, _, _, _, hb, h => by simp at h; exact absurd (by simp [h.1]) hb
  | x :: a, [], _, _, ha, _, h => by simp at h; exact absurd (by simp [h.1]) ha
  | x :: a, y :: b, u, v, ha, hb, h => by
    simp only [List.cons_append, List.cons.injEq] at h
    obtain ⟨h1, h2⟩ := cut_unique (a := a) (b := b) (fun z => ha (by simp [z])) (fun z => hb (by simp [z])) h.2
    exact ⟨by rw [h.1, h1], h2⟩
theorem join_cons_cps (sep p q : Str) (r : List Str) : (Str.join sep (p :: q :: r)).cps.toList = p.cps.toList ++ (sep.cps.toList ++ (Str.join sep (q :: r)).cps.toList) := by
  show (p ++ sep ++ Str.join sep (q :: r)).cps.toList = _
  simp only [Str.cps_append, Array.toList_append, List.append_assoc]
theorem str_eq {a b : Str} (h : a.cps.toList = b.cps.toList) : a = b := Str.ext' (Array.toList_inj.mp h)
theorem join_unique {c : Nat} : ∀ {ps qs : List Str}, ps ≠ [] → qs ≠ [] → (∀ p ∈ ps, c ∉ p.cps.toList) → (∀ p ∈ qs, c ∉ p.cps.toList) → (Str.join ⟨#[c]⟩ ps).cps.toList = (Str.join ⟨#[c]⟩ qs).cps.toList → ps = qs
  | [], _, h, _, _, _, _ => absurd rfl h
  | _ :: _, [], _, h, _, _, _ => absurd rfl h
  | [p], [q], _, _, _, _, h => by rw [show p = q from str_eq h]
  | [p], q :: q' :: r, _, _, hp, _, h => by
    rw [join_cons_cps] at h
    have h' : p.cps.toList = q.cps.toList ++ (c :: (Str.join ⟨#[c]⟩ (q' :: r)).cps.toList) := h
    exact absurd (by rw [h']; simp) (hp p (by simp))
  | p :: p' :: r, [q], _, _, _, hq, h => by
    rw [join_cons_cps] at h
    have h' : p.cps.toList ++ (c :: (Str.join ⟨#[c]⟩ (p' :: r)).cps.toList) = q.cps.toList := h
    exact absurd (by rw [← h']; simp) (hq q (by simp))
  | p :: p' :: r, q :: q' :: r', _, _, hp, hq, h => by
    rw [join_cons_cps, join_cons_cps] at h
    obtain ⟨h1, h2⟩ := cut_unique (hp p (by simp)) (hq q (by simp)) h
    rw [str_eq h1, join_unique (c := c) (ps := p' :: r) (qs := q' :: r') (by simp) (by simp) (fun a ha => hp a (by simp [ha])) (fun a ha => hq a (by simp [ha])) h2]
theorem split_ne (x y : Str) : Txt.split x y ≠ [] := by
  unfold Txt.split
  split
  · simp
  · split
    · simp
    · rw [partsBetween_eq]
      obtain ⟨p, r, e⟩ := partsFrom_ne x y.length 0 (occurrences x y 0 x.length (x.length + 1))
      rw [e]; simp
theorem split_join {c : Nat} {ps : List Str} (h : ps ≠ []) (hp : ∀ p ∈ ps, c ∉ p.cps.toList) {x : Str} (hx : x.cps.toList = (Str.join ⟨#[c]⟩ ps).cps.toList) : Txt.split x ⟨#[c]⟩ = ps := by
  refine join_unique (split_ne _ _) h (split_free x c) hp ?_
  rw [join_split]; exact hx
end Mine
end
section
open PySem PySem.W PySem.Calls PyProof.Rows
set_option Elab.async false
namespace Mine


/-- what a call leaves: all that stood stands -/
def Ext (s s' : Shared) : Prop := ∃ h' tk', s' = { s with heap := h', toks := tk' } ∧ s.heap.StaysIn h'
theorem Ext.refl (s : Shared) : Ext s s := ⟨s.heap, s.toks, rfl, fun _ _ e => e⟩
theorem Ext.trans {s s' s'' : Shared} (a : Ext s s') (b : Ext s' s'') : Ext s s'' := by
  obtain ⟨h, t, rfl, x⟩ := a
  obtain ⟨h', t', rfl, y⟩ := b
  exact ⟨h', t', rfl, fun b o e => y b o (x b o e)⟩
theorem Ext.stays {s s' : Shared} (a : Ext s s') : s.heap.StaysIn s'.heap := by
  obtain ⟨h, t, rfl, x⟩ := a; exact x
structure Gd (w : World) (p : Program) (loose : List Str) (mean : ExcName → Option Value) (mg mb : Str → Option Value) (h : Heap) : Prop where
  X : (Mine.hd.heap_39 w.params).In h
  T : Top p loose mean mg mb h
theorem Gd.keeps {w p loose mean mg mb} {h h' : Heap} (G : Gd w p loose mean mg mb h) (k : h.StaysIn h') : Gd w p loose mean mg mb h' := ⟨G.X.keeps k, G.T.keeps k⟩
theorem fr_stays {h₀ h h' : Heap} {L : Addr} {m : Str → Option Value} (F : Fr h₀ L h m) (k : h.StaysIn h') : Fr h₀ L h' m :=
  ⟨F.ns.keeps k, fun b o e => k b o (F.keep b o e), F.above⟩
theorem news_stays {h₀ h h' : Heap} {L : Addr} {news : List (Addr × Obj)} (N : News h₀ L h news) (k : h.StaysIn h') : News h₀ L h' news :=
  fun p hp => ⟨k _ _ (N p hp).1, (N p hp).2⟩

theorem news_more {h₀ h : Heap} {L a : Addr} {o : Obj} {news : List (Addr × Obj)} (N : News h₀ L h news) (e : h.get? a = some o) (hL : a ≠ L) (h0 : h₀.get? a = none) : News h₀ L h ((a, o) :: news) := fun p hp => by
  rcases List.mem_cons.mp hp with rfl | hp
  · exact ⟨e, hL, h0⟩
  · exact N p hp

/-- a def of the text's entered: all that stands at the call is the callee's ground -/
theorem code_in {w : World} {p : Program} {loose : List Str} {mean : ExcName → Option Value} {mg mb : Str → Option Value} {A : Around} {s : Shared} {R : Result → Shared → Prop} {name qual : Str} {params : Arguments} {body : List Stmt} {scope : Scope} {dV kV doc pm cdv ct oc : Value} {an od : Option Addr} {osl : Array (Option Value)} {f : Addr} {args : Args} {binds : List (Str × Value)}
    (G : Gd w p loose mean mg mb s.heap)
    (ho : (Mine.hd.heap_39 w.params).lookup f = some ⟨oc, od, .func (fnOf name qual params body scope dV kV doc pm an cdv ct), osl⟩) (hcd : codeIn (Mine.hd.heap_39 w.params) cdv qual = true) (hroom : A.depth < recursionLimit)
    (hbind : BindsTo s (fnOf name qual params body scope dV kV doc pm an cdv ct) args binds) (hloc : ∀ y ∈ binds, scope.names.lookup y.1 = some .local)
    (h : ∀ h₁, Fr s.heap s.heap.objs.size h₁ (fun y => binds.reverse.lookup y) → News s.heap s.heap.objs.size h₁ [] →
      wpAny (model Challenge.rw_nb0035_01.row.prog w) (A.deeper (envOf qual scope s.heap.objs.size f cdv)) (execs body (envOf qual scope s.heap.objs.size f cdv))
        (fun fl s' => R (.ok (.ret (match fl with | .ret v => v | _ => .none))) s')
        (fun _ _ => False)
        { s with heap := h₁, toks := s.toks + binds.length })
    (hco : scope.isCoroutine = false := by rfl) (hgen : scope.isGenerator = false := by rfl) (hk : scope.kind = .function := by rfl)
    (hcell : ∀ x ∈ scope.names, x.2 ≠ .cell := by decide) : codeAny (model Challenge.rw_nb0035_01.row.prog w) A (.call (.ref f) args) R s := by
  refine codeAny_call_def (fd := fnOf name qual params body scope dV kV doc pm an cdv ct) (body := body) (binds := binds) hroom (G.X _ _ ho) rfl G.T.nolimit (codeRec_of G.X hcd) rfl hbind hcell hloc (fun h₁ hns hk₁ => ?_) hco hgen hk
  exact wpAny_mono (h h₁ ⟨hns, hk₁, Nat.le_refl _⟩ News.nil) (fun _ _ x => x) (fun _ _ x => x.elim)

theorem code_inC {w : World} {p : Program} {loose : List Str} {mean : ExcName → Option Value} {mg mb : Str → Option Value} {A : Around} {s : Shared} {R : Result → Shared → Prop} {name qual : Str} {params : Arguments} {body : List Stmt} {scope : Scope} {dV kV doc pm cdv ct oc : Value} {an od : Option Addr} {osl : Array (Option Value)} {f : Addr} {args : Args} {binds : List (Str × Value)}
    (G : Gd w p loose mean mg mb s.heap)
    (ho : (Mine.hd.heap_39 w.params).lookup f = some ⟨oc, od, .func (fnOf name qual params body scope dV kV doc pm an cdv ct), osl⟩) (hcd : codeIn (Mine.hd.heap_39 w.params) cdv qual = true) (hroom : A.depth < recursionLimit)
    (hbind : BindsTo s (fnOf name qual params body scope dV kV doc pm an cdv ct) args binds) (hkind : (binds.all fun y => scope.names.lookup y.1 == some .local || scope.names.lookup y.1 == some .cell) = true)
    (hnd : ((cellsFrom 0 scope.names []).map (·.1)).Nodup)
    (h : ∀ h₁ tk cells, Fr s.heap s.heap.objs.size h₁ (bindL (envOfC qual scope s.heap.objs.size f cdv).kindOf binds fun _ => none) → News s.heap s.heap.objs.size h₁ cells →
      CellsAre (bindC (envOfC qual scope s.heap.objs.size f cdv).kindOf binds fun _ => none) (cellsFrom (s.heap.objs.size + 1) scope.names []) cells →
      wpAny (model Challenge.rw_nb0035_01.row.prog w) (A.deeper (envOfC qual scope s.heap.objs.size f cdv)) (execs body (envOfC qual scope s.heap.objs.size f cdv))
        (fun fl s' => R (.ok (.ret (match fl with | .ret v => v | _ => .none))) s')
        (fun _ _ => False)
        { s with heap := h₁, toks := tk })
    (hco : scope.isCoroutine = false := by rfl) (hgen : scope.isGenerator = false := by rfl) (hk : scope.kind = .function := by rfl) : codeAny (model Challenge.rw_nb0035_01.row.prog w) A (.call (.ref f) args) R s := by
  refine codeAny_call_function hroom (G.X _ _ ho) rfl hco hgen rfl (codeRec_of G.X hcd) (hbind _ _ _ _ ?_)
  refine wpAny_newFunctionEnv_cells hk (kindsX hkind _) fun env' he s' x => ?_
  subst he
  refine ⟨G.T.nolimit.keeps x.toInCall.keep, codeAny_func ?_⟩
  obtain ⟨h₁, tk, rfl, _⟩ := x.done
  have hk₁ := x.toInCall.keep
  obtain ⟨cells, NC, Y⟩ := Cl.news (h₀ := s.heap) (Nat.le_refl _) fun n c hm => ⟨x.cell n c (lookup_of_mem_nodup (cellsFrom_names scope.names 0 (s.heap.objs.size + 1) [] [] rfl ▸ hnd) hm), x.above n c hm⟩
  exact wpAny_mono (h h₁ tk cells ⟨x.toInCall.ns, hk₁, Nat.le_refl _⟩ NC Y) (fun _ _ x => x) (fun _ _ x => x.elim)

/-- the call came back, all that stood stands, and this is so of what it gave -/
def Got (s : Shared) (R : Value → Heap → Prop) (r : Result) (s' : Shared) : Prop := ∃ v, r = .ok (.ret v) ∧ Ext s s' ∧ R v s'.heap
theorem got_of {s : Shared} {R : Value → Heap → Prop} {v : Value} {h : Heap} {tk : Nat} {L : Addr} {m : Str → Option Value} (F : Fr s.heap L h m) (r : R v h) : Got s R (.ok (.ret v)) { s with heap := h, toks := tk } :=
  ⟨v, rfl, ⟨h, tk, rfl, F.keep⟩, r⟩
theorem got_call {M : Model} {A : Around} {f : Value} {vs : List Value} {s : Shared} {R : Value → Heap → Prop} {Q E : Value → Shared → Prop} (c : codeAny M A (.call f ⟨vs, []⟩) (Got s R) s)
    (h : ∀ v h' tk', s.heap.StaysIn h' → R v h' → Q v { s with heap := h', toks := tk' }) : wpAny M A (call f vs) Q E s :=
  wpAny_call (codeAny_mono c fun r s' g => by obtain ⟨v, rfl, ⟨h', tk', rfl, k⟩, r⟩ := g; exact h v h' tk' k r)
end Mine
end
section
open PySem PySem.W PySem.Calls PyProof.Rows
set_option Elab.async false
set_option maxRecDepth 100000
namespace Mine
theorem plainAttrs_rePattern : PlainAttrs "re.Pattern" :=
  ⟨⟨"object.__getattribute__", by rw [typeLookup_type, builtinLookup_eq_fast]; kernel_rfl, by decide +kernel⟩, by rw [typeLookup_type, builtinLookup_eq_fast]; kernel_rfl⟩
theorem method_sub {M : Model} {A : Around} {E : Value → Shared → Prop} {s : Shared} {pl : Sem Bool} {Q : Value × List Value → Shared → Prop} {P : Addr} {code : Array Nat} (hP : IsPat s.heap P code)
    (h : Q (.builtin "re.Pattern.sub", [.ref P]) s) : wpAny M A (getMethod (.ref P) "sub" pl) Q E s := by
  obtain ⟨C, src, fl, h1, h2⟩ := hP
  exact getMethod_builtin ⟨_, h1, rfl⟩ plainAttrs_rePattern slot_re_sub type_re_sub (fun a e => by cases e; exact ⟨_, h1, rfl⟩) h
theorem pat1 {w : World} {p : Program} {loose : List Str} {mean : ExcName → Option Value} {mg mb : Str → Option Value} {h : Heap} (G : Gd w p loose mean mg mb h) : IsPat h 36 code1 := by
  (have kfil : (fun (_ : Challenge.rw_nb0035_01.row.prog = Challenge.rw_nb0035_01.row.prog) => Mine.hd.heap_39) = (fun _ => Mine.hd.heap_39) := by k_fill; rfl); clear kfil
  have h1 := G.X 36 _ (by k_is)
  have h2 := G.X 35 _ (by k_is)
  exact ⟨35, _, _, h1, h2.trans (by simp [code1])⟩
theorem pat2 {w : World} {p : Program} {loose : List Str} {mean : ExcName → Option Value} {mg mb : Str → Option Value} {h : Heap} (G : Gd w p loose mean mg mb h) : IsPat h 41 code2 := by
  (have kfil : (fun (_ : Challenge.rw_nb0035_01.row.prog = Challenge.rw_nb0035_01.row.prog) => Mine.hd.heap_39) = (fun _ => Mine.hd.heap_39) := by k_fill; rfl); clear kfil
  have h1 := G.X 41 _ (by k_is)
  have h2 := G.X 40 _ (by k_is)
  exact ⟨40, _, _, h1, h2.trans (by simp [code2])⟩

set_option maxHeartbeats 8000000 in
theorem c_fix {w : World} {p : Program} {loose : List Str} {mean : ExcName → Option Value} {mg mb : Str → Option Value} {A : Around} {s : Shared} {x : Str} {t : Tok} (G : Gd w p loose mean mg mb s.heap) (hdp : A.depth < 900) (hx : x.length ≤ 1000) :
    codeAny (model Challenge.rw_nb0035_01.row.prog w) A (.call (.ref 55) ⟨[.str x t], []⟩) (Got s fun v _ => ∃ t', v = .str (fixS x) t') s := by
  have X := G.X
  have T := G.T
  (have kfil : (fun (_ : Challenge.rw_nb0035_01.row.prog = Challenge.rw_nb0035_01.row.prog) => Mine.hd.heap_39) = (fun _ => Mine.hd.heap_39) := by k_fill; rfl); clear kfil
  refine' code_in (binds := [(Str.ofString "data", .str x t)]) G ?k6 ?k7 ?k8 ?k9 ?kB ?_ ?c2 ?c3 ?c4 ?c5; (case k6 => k_is); (case k7 => k_is); (case k8 => (try dsimp only); simp only [recursionLimit]; omega); (case k9 => first | exact BindsTo.of_eq rfl | exact binds_K G.X rfl (by k_is) rfl rfl rfl); (case c5 => decide); (case kB => exact locs rfl); (case c2 => exact rfl); (case c3 => exact rfl); (case c4 => exact rfl)
  intro h₁ F N
  k_fold
  k_steps
  refine method_sub (pat2 (G.keeps F.keep)) ?_
  dsimp only
  k_steps
  refine call_fix (pat2 (G.keeps F.keep)) (by show x.length ≤ 100000; omega) ?_
  intro t' h' tk' hk
  exact got_of (fr_stays F hk) ⟨_, rfl⟩

theorem fixG_le : ∀ (l : List Nat) (p : Bool), (fixG p l).length ≤ 2 * l.length
  | [], _ => by simp [fixG]
  | c :: l, p => by
    have h1 := fixG_le l false
    have h2 := fixG_le l true
    rw [fixG]
    split
    · split <;> simp <;> omega
    · split <;> simp <;> omega
theorem fixS_le (x : Str) : (fixS x).length ≤ 2 * x.length := by
  have := fixG_le x.cps.toList false
  simpa [fixS, Str.length] using this

set_option maxHeartbeats 8000000 in
theorem c_quote {w : World} {p : Program} {loose : List Str} {mean : ExcName → Option Value} {mg mb : Str → Option Value} {A : Around} {s : Shared} {x : Str} {t : Tok} (G : Gd w p loose mean mg mb s.heap) (hdp : A.depth < 900) (hx : x.length ≤ 1000) :
    codeAny (model Challenge.rw_nb0035_01.row.prog w) A (.call (.ref 48) ⟨[.str x t], []⟩) (Got s fun v _ => ∃ t', v = .str (quoteS x) t') s := by
  have X := G.X
  have T := G.T
  (have kfil : (fun (_ : Challenge.rw_nb0035_01.row.prog = Challenge.rw_nb0035_01.row.prog) => Mine.hd.heap_39) = (fun _ => Mine.hd.heap_39) := by k_fill; rfl); clear kfil
  refine' code_in (binds := [(Str.ofString "data", .str x t)]) G ?k6 ?k7 ?k8 ?k9 ?kB ?_ ?c2 ?c3 ?c4 ?c5; (case k6 => k_is); (case k7 => k_is); (case k8 => (try dsimp only); simp only [recursionLimit]; omega); (case k9 => first | exact BindsTo.of_eq rfl | exact binds_K G.X rfl (by k_is) rfl rfl rfl); (case c5 => decide); (case kB => exact locs rfl); (case c2 => exact rfl); (case c3 => exact rfl); (case c4 => exact rfl)
  intro h₁ F N
  k_fold
  k_steps
  refine method_sub (pat1 (G.keeps F.keep)) ?_
  dsimp only
  k_steps
  refine method_sub (pat2 (G.keeps F.keep)) ?_
  dsimp only
  k_steps
  refine call_fix (pat2 (G.keeps F.keep)) (by show x.length ≤ 100000; omega) ?_
  intro t' h' tk' hk
  have F' := fr_stays F hk
  have N' := news_stays N hk
  clear F N
  k_steps
  have h2 := fixS_le x
  refine call_dot (pat1 (G.keeps F'.keep)) (by show (fixS x).length ≤ 100000; omega) ?_
  intro t'' h'' tk'' hk'
  exact got_of (fr_stays F' hk') ⟨_, rfl⟩
end Mine
end
section
open PySem PySem.W PySem.Calls PyProof.Rows PySem.Builtin PySem.Builtin.Str
set_option Elab.async false
set_option maxRecDepth 100000
namespace Mine
def dottedL (l : List Nat) : List Nat := if l.head? = some 46 then 46 :: l else l
def dottedS (x : Str) : Str := ⟨(dottedL x.cps.toList).toArray⟩
theorem slice1 (x : Str) : (Txt.slice x none (some 1) == Str.ofString ".") = decide (x.cps.toList.head? = some 46) := by
  have e : Str.ofString "." = ⟨#[46]⟩ := by decide +kernel
  rw [e]
  obtain ⟨⟨l⟩⟩ := x
  cases l with
  | nil => rfl
  | cons c r =>
    have h : Txt.slice ⟨⟨c :: r⟩⟩ none (some 1) = ⟨#[c]⟩ := by
      unfold Txt.slice
      have hi : strSliceIndices none (some 1) 1 (Str.length ⟨⟨c :: r⟩⟩) = [0] := by
        rw [StrLaws.sliceIdx_none_lo]
        have := StrLaws.strSliceIndices_plain (a := 0) (b := 1) (len := (c :: r).length) (by omega) (by simp)
        simpa [Str.length] using this
      rw [hi]
      split
      · rename_i h
        cases r with
        | nil => rfl
        | cons d r => simp [Str.length] at h
      · simp
    rw [h]
    by_cases hc : c = 46
    · subst hc; rfl
    · simp [hc]

theorem dottedS_len (x : Str) : (dottedS x).length ≤ x.length + 1 := by
  unfold dottedS dottedL Str.length
  split <;> simp

set_option maxHeartbeats 8000000 in
theorem c_dotted {w : World} {p : Program} {loose : List Str} {mean : ExcName → Option Value} {mg mb : Str → Option Value} {A : Around} {s : Shared} {x : Str} {t : Tok} (G : Gd w p loose mean mg mb s.heap) (hdp : A.depth < 900) (hx : x.length ≤ 1000) :
    codeAny (model Challenge.rw_nb0035_01.row.prog w) A (.call (.ref 78) ⟨[.str x t], []⟩) (Got s fun v _ => ∃ t', v = .str (dottedS x) t') s := by
  have X := G.X
  have T := G.T
  (have kfil : (fun (_ : Challenge.rw_nb0035_01.row.prog = Challenge.rw_nb0035_01.row.prog) => Mine.hd.heap_39) = (fun _ => Mine.hd.heap_39) := by k_fill; rfl); clear kfil
  refine' code_in (binds := [(Str.ofString "row", .str x t)]) G ?k6 ?k7 ?k8 ?k9 ?kB ?_ ?c2 ?c3 ?c4 ?c5; (case k6 => k_is); (case k7 => k_is); (case k8 => (try dsimp only); simp only [recursionLimit]; omega); (case k9 => first | exact BindsTo.of_eq rfl | exact binds_K G.X rfl (by k_is) rfl rfl rfl); (case c5 => decide); (case kB => exact locs rfl); (case c2 => exact rfl); (case c3 => exact rfl); (case c4 => exact rfl)
  intro h₁ F N
  k_fold
  k_steps
  · rename_i hq t' k' _
    refine got_of (L := s.heap.objs.size) (by assumption) ⟨t', ?_⟩
    rw [slice1] at hq
    have := of_decide_eq_true hq
    refine congrArg (fun z => Value.str z _) (?_ : _ = dottedS x)
    apply Str.ext'
    apply Array.toList_inj.mp
    rw [Str.cps_append]
    simp only [dottedS, dottedL, this, if_true]
    have e : (Str.ofString ".").cps = #[46] := by decide +kernel
    rw [e]; simp
  · rename_i hq
    refine got_of (L := s.heap.objs.size) (by assumption) ⟨t, ?_⟩
    rw [slice1] at hq
    have := of_decide_eq_false hq
    refine congrArg (fun z => Value.str z _) (?_ : _ = dottedS x)
    apply Str.ext'
    apply Array.toList_inj.mp
    simp only [dottedS, dottedL, this, if_false]
end Mine
end
section
open PySem PySem.W PySem.Calls PyProof.Rows PySem.Builtin PySem.Builtin.Str
set_option Elab.async false
set_option maxRecDepth 100000
namespace Mine
theorem call_replace {prog : Program} {w : World} {A : Around} {E : Value → Shared → Prop} {s : Shared} {x y z : Str} {t u v : Tok} {Q : Value → Shared → Prop}
    (hu : u ≠ 0) (hv : v ≠ 0) (huv : u ≠ v) (hyz : (y == z) = false) (hx : x.length ≤ 100000) (hz : z.length ≤ 10)
    (hq : ∀ t' k, s.toks ≤ k → Q (.str (Txt.replace x y z) t') { s with toks := k }) : wpAny (model prog w) A (call (.builtin "str.replace") [.str x t, .str y u, .str z v]) Q E s := by
  have e : (2 : Nat) ^ 24 = 16777216 := by decide
  have h0 : (x.length + 1) * z.length ≤ (x.length + 1) * 10 := Nat.mul_le_mul_left _ hz
  have hb : x.length + (x.length + 1) * z.length ≤ 16777216 := by omega
  have hl : tooLong (x.length + (occurrences x y 0 x.length (x.length + 1)).length * z.length) = false := by
    have h1 := StrLaws.occ_length_le x y 0 x.length (x.length + 1)
    have h2 : (occurrences x y 0 x.length (x.length + 1)).length * z.length ≤ (x.length + 1) * z.length := Nat.mul_le_mul_right _ h1
    unfold tooLong sizeLine
    exact decide_eq_false (by omega)
  refine call_gives F.slot_str_replace (typeIs_str _ _ _) F.entry_str_replace (F.args_str_replace_3 _ _ _)
    (gives_str_replace x y z t u v fun _ => ⟨by simp [hu, hv], by simp [huv], hyz, hl⟩) ?_
  have hq' := hq
  unfold Txt.replace at hq'
  cases hc : ((occurrences x y 0 x.length (x.length + 1)).isEmpty || (y.length == 0 && z.length == 0))
  · rw [hc] at hq'
    simp only [Bool.false_eq_true, if_false] at hq' ⊢
    exact ⟨fits_replaced y hb, hq' _ _ (Nat.le_succ _)⟩
  · rw [hc] at hq'
    simp only [if_true] at hq' ⊢
    exact hq' t s.toks (Nat.le_refl _)
def Hide (P : Prop) : Prop := P
def normS (x : Str) : Str := ⟨(normG false x.cps.toList).toArray⟩
theorem of_crlf : Str.ofString "\r\n" = crlf := by decide +kernel
theorem of_lf : Str.ofString "\n" = ⟨#[10]⟩ := by decide +kernel
theorem of_cr : Str.ofString "\r" = ⟨#[13]⟩ := by decide +kernel
theorem rep_len (x : Str) : (Txt.replace x (Str.ofString "\r\n") (Str.ofString "\n")).length ≤ x.length := by
  rw [of_crlf, of_lf]
  have h := replace_crlf x
  have h2 := rep2_len _ x.cps.toList (Nat.le_refl _)
  rw [← h] at h2
  simpa [Str.length] using h2
theorem rep_norm (x : Str) : Txt.replace (Txt.replace x (Str.ofString "\r\n") (Str.ofString "\n")) (Str.ofString "\r") (Str.ofString "\n") = normS x := by
  apply str_eq
  rw [of_crlf, of_lf, of_cr, replace_cr, replace_crlf, rep2_norm _ _ (Nat.le_refl _)]
  rfl
theorem norm_len : ∀ (l : List Nat) (p : Bool), (normG p l).length ≤ l.length
  | [], _ => by simp [normG]
  | c :: l, p => by
    have h1 := norm_len l false
    have h2 := norm_len l true
    rw [normG]
    split
    · split <;> simp <;> omega
    · split <;> simp <;> omega
theorem normS_len (x : Str) : (normS x).length ≤ x.length := by
  have := norm_len x.cps.toList false
  simpa [normS, Str.length] using this
def readS (x : Str) : List Str := Txt.split (normS x) (Str.ofString "\n")
set_option maxHeartbeats 8000000 in
theorem c_read {w : World} {p : Program} {loose : List Str} {mean : ExcName → Option Value} {mg mb : Str → Option Value} {A : Around} {s : Shared} {x : Str} {t : Tok} (G : Gd w p loose mean mg mb s.heap) (hdp : A.depth < 900) (hx : x.length ≤ 1000) :
    codeAny (model Challenge.rw_nb0035_01.row.prog w) A (.call (.ref 90) ⟨[.str x t], []⟩) (Got s fun v h => ∃ a ps, v = .ref a ∧ s.heap.get? a = none ∧ h.IsList a (strValues ps).toArray ∧ ps.map (·.1) = readS x) s := by
  have X := G.X
  have T := G.T
  (have kfil : (fun (_ : Challenge.rw_nb0035_01.row.prog = Challenge.rw_nb0035_01.row.prog) => Mine.hd.heap_39) = (fun _ => Mine.hd.heap_39) := by k_fill; rfl); clear kfil
  refine' code_in (binds := [(Str.ofString "text", .str x t)]) G ?k6 ?k7 ?k8 ?k9 ?kB ?_ ?c2 ?c3 ?c4 ?c5; (case k6 => k_is); (case k7 => k_is); (case k8 => (try dsimp only); simp only [recursionLimit]; omega); (case k9 => first | exact BindsTo.of_eq rfl | exact binds_K G.X rfl (by k_is) rfl rfl rfl); (case c5 => decide); (case kB => exact locs rfl); (case c2 => exact rfl); (case c3 => exact rfl); (case c4 => exact rfl)
  intro h₁ F N
  generalize htk : s.toks + List.length [(Str.ofString "text", Value.str x t)] = tk
  have hp : Hide (tk ≠ 0) := by show tk ≠ 0; rw [← htk]; simp
  clear htk
  show wpAny _ _ _ _ _ _
  k_fold
  k_steps
  have hp' : tk ≠ 0 := hp
  refine call_replace hp' (Nat.succ_ne_zero _) (Nat.ne_of_lt (Nat.lt_succ_self _)) (by decide +kernel) (by omega) (by decide +kernel) ?_
  intro t1 k1 hk1
  have hl1 := rep_len x
  have hk1' : Hide (k1 ≠ 0) := by show k1 ≠ 0; have : tk + 1 + 1 ≤ k1 := hk1; omega
  clear hp' hp hk1
  k_steps
  have hp2 : k1 ≠ 0 := hk1'
  refine call_replace hp2 (Nat.succ_ne_zero _) (Nat.ne_of_lt (Nat.lt_succ_self _)) (by decide +kernel) (by omega) (by decide +kernel) ?_
  intro t2 k2 hk2
  rw [rep_norm]
  have hl2 := normS_len x
  k_steps
  rename_i l h' k hl _ _ hL F' N'
  exact got_of F' ⟨_, l, rfl, (N' _ (List.mem_singleton.mpr rfl)).2.2, hL, hl⟩
end Mine
end
section
open PySem PySem.W PySem.Calls PyProof.Rows
set_option Elab.async false
set_option maxRecDepth 100000
namespace Mine
/-- a row: no line end in it, two signs at most -/
def GoodRow (r : Str) : Prop := r.length ≤ 2 ∧ ∀ c ∈ r.cps.toList, c ≠ 10 ∧ c ≠ 13
theorem intsAre_of_all : ∀ l : List Value, (∀ v ∈ l, ∃ i t, v = .int i t) → ∃ ms, IntsAre l ms
  | [], _ => ⟨[], .nil⟩
  | v :: l, h => by
    obtain ⟨i, t, rfl⟩ := h v (by simp)
    obtain ⟨ms, hm⟩ := intsAre_of_all l fun v hv => h v (by simp [hv])
    exact ⟨i :: ms, .cons i t hm⟩
theorem intsAre_mem {vs : List Value} {ns : List Int} (h : IntsAre vs ns) : ∀ v ∈ vs, ∃ i t, v = .int i t := by
  induction h with
  | nil => intro v hv; cases hv
  | cons n t _ ih =>
    intro v hv
    rcases List.mem_cons.mp hv with rfl | hv
    · exact ⟨n, t, rfl⟩
    · exact ih v hv
theorem pick_ints {vs : List Value} {ns : List Int} (h : IntsAre vs ns) (a b c : Option Int) : ∃ ms, IntsAre (slicePick vs.toArray a b c).toList ms := by
  refine intsAre_of_all _ fun v hv => intsAre_mem h v ?_
  unfold slicePick at hv
  simp only [List.mem_filterMap] at hv
  obtain ⟨i, _, hi⟩ := hv
  have := Array.mem_of_getElem? hi
  simpa using this
section
variable {prog : Program} {w : World} {A : Around} {E : Value → Shared → Prop} {s : Shared} {h₀ : Heap} {L : Addr} {m : Str → Option Value} {news : List (Addr × Obj)}
theorem news_tail {h : Heap} {p : Addr × Obj} (N : News h₀ L h (p :: news)) : News h₀ L h news := fun q hq => N q (List.mem_cons_of_mem _ hq)
theorem my_sum {l : Addr} {vs : List Value} {ns : List Int} {a b c : Option Int} {Q : Value → Shared → Prop} (hh : A.handled = none) (F : Fr h₀ L s.heap m)
    (N : News h₀ L s.heap ((l, ({ cls := .type "list", data := .seq (slicePick vs.toArray a b c) } : Obj)) :: news)) (hI : IntsAre vs ns)
    (h : ∀ (z : Int) h' tk t', Fr h₀ L h' m → News h₀ L h' news → Q (.int z t') { s with heap := h', toks := tk }) :
    wpAny (model prog w) A (call (.builtin "sum") [.ref l]) Q E s := by
  obtain ⟨ms, hms⟩ := pick_ints hI a b c
  exact sumK hh F (news_tail N) (vs := (slicePick vs.toArray a b c).toList) ⟨_, (N _ (List.mem_cons_self ..)).1, rfl, _, rfl⟩ hms fun h' tk t' F' N' => h _ h' tk t' F' N'
theorem pick_row {value slice : PySem.Expr} {l : Addr} {vs : List Value} {n : Nat} {k : Int} {u : Tok} {Q : Value → Shared → Prop} (N : News h₀ L s.heap ((l, listOf vs.toArray n) :: news))
    (h0 : 0 ≤ k) (hk : k < vs.length) (hz : vs.length ≤ 100) (hall : ∀ v ∈ vs, ∃ r t, v = .str r t ∧ GoodRow r)
    (h : ∀ r t, GoodRow r → News h₀ L s.heap news → Q (.str r t) s)
    (hs : subscripted slice false (.ref l) (.int k u) = operate [.ref l, .int k u] (getItem (.ref l) (.int k u)) := by with_unfolding_all rfl) :
    wpAny (model prog w) A (subscriptTail value slice (.ref l) (.int k u)) Q E s := by
  have hl : s.heap.IsList l vs.toArray := ⟨_, (N _ (List.mem_cons_self ..)).1, rfl, _, rfl⟩
  have hlt : k.toNat < vs.length := by omega
  obtain ⟨r, t, e, g⟩ := hall vs[k.toNat] (List.getElem_mem hlt)
  have hx : vs.toArray[k.toNat]? = some (.str r t) := by simp [hlt, e]
  exact tail_any hl.typeIs slot_list_getitem.lookup (wpAny_getItem_list hl h0 (by omega) hx (h r t g (news_tail N))) hs
end
theorem rows8 {z : Int} {t0 t1 t2 t3 t4 t5 t6 t7 : Tok} : ∀ v ∈ [Value.str (Str.ofString "") t0, Value.str (Str.ofString ".") t1, Value.str (Str.ofString "a") t2, Value.str (Str.ofString "") t3, Value.str (Str.ofString "..") t4, Value.str (Str.ofString ".a") t5, Value.str (Str.ofString "") t6,
    Value.str { cps := #[(14 + (z.fdiv 8).fmod 55282).toNat] } t7], ∃ r t, v = .str r t ∧ GoodRow r := by
  have lit : ∀ {x : Str}, (x.length ≤ 2 ∧ (x.cps.toList.all fun c => c != 10 && c != 13) = true) → GoodRow x := fun {x} h => by
    refine ⟨h.1, fun c hc => ?_⟩
    have := List.all_eq_true.mp h.2 c hc
    simpa using this
  intro v hv
  simp only [List.mem_cons, List.not_mem_nil, or_false] at hv
  rcases hv with rfl | rfl | rfl | rfl | rfl | rfl | rfl | rfl
  · exact ⟨_, _, rfl, lit (by decide +kernel)⟩
  · exact ⟨_, _, rfl, lit (by decide +kernel)⟩
  · exact ⟨_, _, rfl, lit (by decide +kernel)⟩
  · exact ⟨_, _, rfl, lit (by decide +kernel)⟩
  · exact ⟨_, _, rfl, lit (by decide +kernel)⟩
  · exact ⟨_, _, rfl, lit (by decide +kernel)⟩
  · exact ⟨_, _, rfl, lit (by decide +kernel)⟩
  · refine ⟨_, _, rfl, by simp [Str.length], fun c hc => ?_⟩
    have h1 : 0 ≤ (z.fdiv 8).fmod 55282 := Int.fmod_nonneg_of_pos _ (by decide)
    simp at hc
    omega
theorem fmod8 (z : Int) : 0 ≤ z.fmod 8 ∧ z.fmod 8 < 8 := ⟨Int.fmod_nonneg_of_pos _ (by decide), Int.fmod_lt_of_pos _ (by decide)⟩

local macro_rules | `(tactic| walk_at "callWith") => `(tactic| ((with_reducible show wpAny _ _ (callWith _ (Value.builtin _) (_ :: _) _ []) _ _ _); (with_reducible refine' callWith_method1 ?_ ?he ?hp); (case he => rfl); (case hp => rfl); (try dsimp only [List.cons_append, List.nil_append])))
local macro_rules | `(tactic| walk_at "call builtin:sum") => `(tactic| (k_here; (with_reducible show wpAny _ _ (call (Value.builtin "sum") [Value.ref _]) _ _ _); (with_unfolding_all refine' my_sum ?k0 ?k1 ?k2 ?k4 ?_; (case k0 => with_unfolding_all rfl); (case k1 => k_asm); (case k2 => k_asm); (case k4 => assumption)); intro z' h' tk' t' F' N'; (try dsimp only)))
local macro_rules | `(tactic| walk_at "subscriptTail") => `(tactic| (k_here; (with_reducible show wpAny _ _ (subscriptTail (PySem.Expr.List _ _) _ (Value.ref _) (Value.int _ _)) _ _ _); (with_unfolding_all refine' pick_row ?k1 ?k2 ?k3 ?k4 ?k5 ?_ ?k6; (case k1 => k_asm); (case k2 => exact (fmod8 _).1); (case k3 => exact (fmod8 _).2); (case k4 => simp); (case k5 => exact rows8); (case k6 => with_unfolding_all rfl)); intro r' t' hr' N'))
/-- four rows, in a new list -/
def RowsAt (s : Shared) (v : Value) (h : Heap) : Prop := ∃ a r0 t0 r1 t1 r2 t2 r3 t3 n, v = .ref a ∧ s.heap.get? a = none ∧
  h.get? a = some (listOf #[.str r0 t0, .str r1 t1, .str r2 t2, .str r3 t3] n) ∧ GoodRow r0 ∧ GoodRow r1 ∧ GoodRow r2 ∧ GoodRow r3
set_option maxHeartbeats 8000000 in
theorem c_rows {w : World} {p : Program} {loose : List Str} {mean : ExcName → Option Value} {mg mb : Str → Option Value} {dp un : Nat} {fr : Option (List Env)} {gd : Option (List Code)} {s : Shared} {l : Addr} {vs : List Value} {ns : List Int} (G : Gd w p loose mean mg mb s.heap) (hdp : dp < 800) (hl : s.heap.IsList l vs.toArray) (hI : IntsAre vs ns) (hn : ns.length ≤ 63) :
    codeAny (model Challenge.rw_nb0035_01.row.prog w) ({ handled := none, depth := dp, frames := fr, guards := gd, units := un } : Around) (.call (.ref 71) ⟨[.ref l], []⟩) (Got s (RowsAt s)) s := by
  have X := G.X
  have T := G.T
  (have kfil : (fun (_ : Challenge.rw_nb0035_01.row.prog = Challenge.rw_nb0035_01.row.prog) => Mine.hd.heap_39) = (fun _ => Mine.hd.heap_39) := by k_fill; rfl); clear kfil
  refine' code_in (binds := [(Str.ofString "script", .ref l)]) G ?k6 ?k7 ?k8 ?k9 ?kB ?_ ?c2 ?c3 ?c4 ?c5; (case k6 => k_is); (case k7 => k_is); (case k8 => (try dsimp only); simp only [recursionLimit]; omega); (case k9 => first | exact BindsTo.of_eq rfl | exact binds_K G.X rfl (by k_is) rfl rfl rfl); (case c5 => decide); (case kB => exact locs rfl); (case c2 => exact rfl); (case c3 => exact rfl); (case c4 => exact rfl)
  intro h₁ F N
  k_fold
  k_steps
  refine got_of (L := s.heap.objs.size) (by assumption) ?_
  rename News _ _ _ _ => N'
  have M := N' _ (List.mem_cons_of_mem _ (List.mem_cons_self ..))
  exact ⟨_, _, _, _, _, _, _, _, _, _, rfl, M.2.2, M.1, by assumption, by assumption, by assumption, by assumption⟩
end Mine
end
section
open PySem
set_option maxRecDepth 100000
namespace Mine
def Stay (sk : List Addr) (h h' : Heap) : Prop := ∀ b o, b ∉ sk → h.get? b = some o → h'.get? b = some o
theorem Stay.refl (sk : List Addr) (h : Heap) : Stay sk h h := fun _ _ _ e => e
theorem Stay.trans {sk : List Addr} {h h' h'' : Heap} (a : Stay sk h h') (b : Stay sk h' h'') : Stay sk h h'' := fun c o n e => b c o n (a c o n e)
theorem Stay.mono {sk sk' : List Addr} {h h' : Heap} (a : Stay sk h h') (hs : ∀ b ∈ sk, b ∈ sk') : Stay sk' h h' := fun c o n e => a c o (fun q => n (hs c q)) e
theorem Stay.of_same {a : Addr} {sk : List Addr} {h h' : Heap} (x : Heap.SameBut a h h') (ha : a ∈ sk) : Stay sk h h' := fun b o hb e => x.extBut b o (fun z => hb (z ▸ ha)) e
theorem Stay.of_keep {sk : List Addr} {h h' : Heap} (x : ∀ b o, h.get? b = some o → h'.get? b = some o) : Stay sk h h' := fun b o _ e => x b o e
section
variable {prog : Program} {w : World} {A : Around} {R : Result → Shared → Prop} {elt iter0 iter1 : Expr} {x y : Str} {px py : Pos} {scope : Scope} {pos : Pos} {cenv : Env}
def FF : Value → Shared → Prop := fun _ _ => False
theorem ff_mono {α : Type} {M : Model} {t : Sem α} {Q : α → Shared → Prop} {E : Value → Shared → Prop} {s : Shared} (h : wpAny M A t Q FF s) : wpAny M A t Q E s := wpAny_mono h (fun _ _ q => q) fun _ _ f => f.elim
theorem compTurn_in (elt iter0 iter1 : Expr) (x y : Str) (px py : Pos) (scope : Scope) (pos : Pos) (it acc : Value) (env : Env) :
    compTurn (.ListComp elt [⟨.Name x px, iter0, [], 0⟩, ⟨.Name y py, iter1, [], 0⟩] scope pos) 1 it acc env = (standAt iter1.pos >>= fun _ => pyNext it >>= fun r => match r with
      | none => pure (.done .next)
      | some v => letOwnedTupleGo (.Name y py) it v >>= fun _ => assign (.Name y py) env v >>= fun _ =>
        (eval elt env >>= fun x => call (.builtin "list.append") [acc, x] >>= fun _ => pure ()) >>= fun _ =>
          again (.compLoop (.ListComp elt [⟨.Name x px, iter0, [], 0⟩, ⟨.Name y py, iter1, [], 0⟩] scope pos) 1 it acc env)) := by rfl

theorem inner_loop {J K D C : Addr} {js : List Value} {tv : Value} {f : Value → Value → Prop} (hh : A.handled = none) (hC : cenv.locals = C) (hy : cenv.kindOf y = some .local) (hxy : x ≠ y)
    (hp : (cenv.scope.kind == .class || (cenv.scope.kind == .module && cenv.locals != cenv.globals)) = false)
    (hJK : K ≠ J) (hDC : D ≠ C) (hDJ : D ≠ J) (hDK : D ≠ K) (hCJ : C ≠ J) (hCK : C ≠ K) (s₀ : Shared)
    (helt : ∀ v s₂ m₂, v ∈ js → s₂.heap.Ns C m₂ → m₂ y = some v → m₂ x = some tv → Stay [C, D, J] s₀.heap s₂.heap → wpAny (model prog w) A (eval elt cenv) (fun r s₃ => f v r ∧ Keeps s₂ s₃) FF s₂) :
    ∀ (rest pre : List Value) (h : Heap) (tk : Nat) (m : Str → Option Value) (ys : Array Value), js = pre ++ rest → h.IsListIter J K pre.length → h.IsList K js.toArray → h.PlainList D ys → h.Ns C m → m x = some tv → Stay [C, D, J] s₀.heap h → ys.size + rest.length ≤ 10000 →
      (∀ h' tk' m' (zs : List Value), h'.Ns C m' → m' x = some tv → h'.PlainList D (ys ++ zs.toArray) → Paired f rest zs → Stay [C, D, J] s₀.heap h' → R (.ok .next) { s₀ with heap := h', toks := tk' }) →
      codeAny (model prog w) A (.compLoop (.ListComp elt [⟨.Name x px, iter0, [], 0⟩, ⟨.Name y py, iter1, [], 0⟩] scope pos) 1 (.ref J) (.ref D) cenv) R { s₀ with heap := h, toks := tk } := by
  intro rest
  have W := Walks.list (prog := prog) (w := w) hh J K hJK js.toArray
  induction rest with
  | nil =>
    intro pre h tk m ys hjs hJ hK hD hN hx hS hsz hfin
    refine codeAny_of_tree ?_
    show wpAny _ _ ((compTurn (.ListComp elt [⟨.Name x px, iter0, [], 0⟩, ⟨.Name y py, iter1, [], 0⟩] scope pos) 1 (.ref J) (.ref D) cenv).onRaise (fun x => do noteFrame x cenv; theTreesLotGoes x)) _ _ _
    refine wpAny_onRaise (ff_mono ?_)
    rw [compTurn_in, Around.under_of_weight (by rfl)]
    refine wpAny_bind (wpAny_standAt (wpAny_bind ?_))
    have hl : pre.length = js.toArray.size := by rw [hjs]; simp
    refine W.done _ _ _ ⟨hl ▸ hJ, hK⟩ fun h' tk' hk => ?_
    have hS' : Stay [C, D, J] h h' := fun b o hb e => hk b o (fun q => hb (by simp at q; simp [q])) e
    have e := hfin h' tk' m [] (hN.at' fun o e => hk _ o (by simp [hCJ]) e) hx (by simpa using hD.at fun o e => hk _ o (by simp [hDJ]) e) .nil (hS.trans hS')
    exact wpAny_pure e
  | cons v rest ih =>
    intro pre h tk m ys hjs hJ hK hD hN hx hS hsz hfin
    refine codeAny_of_tree ?_
    show wpAny _ _ ((compTurn (.ListComp elt [⟨.Name x px, iter0, [], 0⟩, ⟨.Name y py, iter1, [], 0⟩] scope pos) 1 (.ref J) (.ref D) cenv).onRaise (fun x => do noteFrame x cenv; theTreesLotGoes x)) _ _ _
    refine wpAny_onRaise (ff_mono ?_)
    rw [compTurn_in, Around.under_of_weight (by rfl)]
    refine wpAny_bind (wpAny_standAt (wpAny_bind ?_))
    have hl : pre.length < js.toArray.size := by rw [hjs]; simp
    refine W.item pre.length _ _ _ hl ⟨hJ, hK⟩ fun v' h1 tk1 hv' hst1 hk1 => ?_
    have ev : v' = v := by
      have : js.toArray[pre.length]? = some v := by rw [hjs]; simp
      rw [this] at hv'; exact (Option.some.inj hv').symm
    subst ev
    refine wpAny_bind (wpAny_of_eq (a := ()) rfl ?_)
    have hN1 : h1.Ns C m := hN.at' fun o e => hk1 _ o (by simp [hCJ]) e
    refine wpAny_bind (wpAny_assign_Name (wpAny_storeName_local hy (hC ▸ hN1) (fun h2 hn2 hs2 => ?_) hp))
    rw [hC] at hn2 hs2
    have hS1 : Stay [C, D, J] h h1 := fun b o hb e => hk1 b o (fun q => hb (by simp at q; simp [q])) e
    have hS2 : Stay [C, D, J] h1 h2 := .of_same hs2 (by simp)
    refine wpAny_bind (wpAny_bind (wpAny_mono (helt v' _ _ (by rw [hjs]; simp) hn2 (by simp) (by simp [hxy, hx]) (hS.trans (hS1.trans hS2))) (fun r s3 h3 => ?_) fun _ _ z => z))
    obtain ⟨hf, h3, tk3, rfl, hk3⟩ := h3
    have hD3 : h3.PlainList D ys := hD.at fun o e => hk3 _ o (hs2.extBut _ o hDC (hk1 _ o (by simp [hDJ]) e))
    refine wpAny_bind (wpAny_list_append_plain (hsz := by show ys.size ≤ sizeLine; unfold sizeLine; simp at hsz; omega) hD3 fun h4 hD4 hs4 => ?_)
    refine wpAny_pure (wpAny_pure ⟨rfl, ?_⟩)
    have hS4 : Stay [C, D, J] h h4 := hS1.trans (hS2.trans ((Stay.of_keep hk3).trans (.of_same hs4 (by simp))))
    refine ih (pre ++ [v']) h4 tk3 (fun z => if z = y then some v' else m z) (ys.push r) (by rw [hjs]; simp) ?_ ?_ hD4 ?_ ?_ (hS.trans hS4) (by simp at hsz ⊢; omega) ?_
    · rw [List.length_append, List.length_singleton]
      exact ((hst1.1.at fun o e => hs2.extBut _ o (Ne.symm hCJ) e).at fun o e => hk3 _ o e).at fun o e => hs4.extBut _ o (Ne.symm hDJ) e
    · exact ((hst1.2.at fun o e => hs2.extBut _ o (Ne.symm hCK) e).at fun o e => hk3 _ o e).at fun o e => hs4.extBut _ o (Ne.symm hDK) e
    · exact (hn2.keeps hk3).sameBut hs4 (Ne.symm hDC)
    · simp [hxy, hx]
    · intro h' tk' m' zs hn' hm' hD' hP hS'
      refine hfin h' tk' m' (r :: zs) hn' hm' ?_ (.cons hf hP) hS'
      rw [show ys ++ (r :: zs).toArray = ys.push r ++ zs.toArray by simp]
      exact hD'
theorem compTurn_out (elt iter0 iter1 : Expr) (x y : Str) (px py : Pos) (scope : Scope) (pos : Pos) (it acc : Value) (env : Env) :
    compTurn (.ListComp elt [⟨.Name x px, iter0, [], 0⟩, ⟨.Name y py, iter1, [], 0⟩] scope pos) 0 it acc env = (standAt iter0.pos >>= fun _ => pyNext it >>= fun r => match r with
      | none => pure (.done .next)
      | some v => letOwnedTupleGo (.Name x px) it v >>= fun _ => assign (.Name x px) env v >>= fun _ =>
        eval iter1 env >>= fun z => standAt iter1.pos >>= fun _ => foldedSetIterable iter1 env z >>= fun z' => holding [z'] (pyIter z') >>= fun jt =>
          runOwn (.compStart (.ListComp elt [⟨.Name x px, iter0, [], 0⟩, ⟨.Name y py, iter1, [], 0⟩] scope pos) 1 jt acc env) env >>= fun _ =>
          again (.compLoop (.ListComp elt [⟨.Name x px, iter0, [], 0⟩, ⟨.Name y py, iter1, [], 0⟩] scope pos) 0 it acc env)) := by rfl
theorem start_in {s : Shared} {jt acc : Value} (h : wpAny (model prog w) A (pyIter jt) (fun it' s' => it' = jt ∧ s' = s) FF s)
    (h0 : codeAny (model prog w) A (.compLoop (.ListComp elt [⟨.Name x px, iter0, [], 0⟩, ⟨.Name y py, iter1, [], 0⟩] scope pos) 1 jt acc cenv) R s) :
    codeAny (model prog w) A (.compStart (.ListComp elt [⟨.Name x px, iter0, [], 0⟩, ⟨.Name y py, iter1, [], 0⟩] scope pos) 1 jt acc cenv) R s := by
  refine codeAny_of_tree ?_
  show wpAny _ _ ((compStart (.ListComp elt [⟨.Name x px, iter0, [], 0⟩, ⟨.Name y py, iter1, [], 0⟩] scope pos) 1 jt acc cenv).onRaise (fun x => do noteFrame x cenv; standAt theWindowsPlace)) _ _ s
  rw [Around.under_of_weight (by rfl)]
  refine wpAny_onRaise (ff_mono ?_)
  unfold compStart
  show wpAny _ _ (ask >>= _) _ _ s
  refine wpAny_bind (wpAny_askSetting (wpAny_ite ?_))
  split
  · first
      | exact wpAny_bind (wpAny_pure (wpAny_pure (And.intro rfl h0)))
      | exact wpAny_pure (And.intro rfl h0)
  · first
      | exact wpAny_bind (wpAny_rule (wpAny_bind (wpAny_standAt (wpAny_bind (wpAny_mono h (fun it' s' h' => by obtain ⟨rfl, rfl⟩ := h'; exact wpAny_pure (And.intro rfl h0)) fun _ _ x => x)))))
      | (refine wpAny_bind (wpAny_rule ?_); show wpAny _ _ (standAt iter1.pos >>= _) _ _ s; exact wpAny_bind (wpAny_standAt (wpAny_bind (wpAny_mono h (fun it' s' h' => by obtain ⟨rfl, rfl⟩ := h'; exact wpAny_pure (And.intro rfl h0)) fun _ _ x => x))))

theorem isListIter_push {h : Heap} {l : Addr} : (h.push { cls := .type "list_iterator", data := .fields #[.ref l, .int 0 0] }).IsListIter h.objs.size l 0 := ⟨_, Heap.get?_push_size _ rfl, rfl, rfl⟩

theorem outer_loop {I T D C : Addr} {ts : List Value} {g : Value → List Value → Prop} {f : Value → Value → Value → Prop} {Pj : Value → Prop} (hh : A.handled = none) (hC : cenv.locals = C) (hx : cenv.kindOf x = some .local) (hy : cenv.kindOf y = some .local) (hxy : x ≠ y)
    (hp : (cenv.scope.kind == .class || (cenv.scope.kind == .module && cenv.locals != cenv.globals)) = false) (hfs : ∀ z, foldedSetIterable iter1 cenv z = pure z)
    (hIT : T ≠ I) (hDC : D ≠ C) (hDI : D ≠ I) (hDT : D ≠ T) (hCI : C ≠ I) (hCT : C ≠ T) (s₀ : Shared)
    (hiter : ∀ s₂, wpAny (model prog w) A (eval iter1 cenv) (fun z s₃ => ∃ K js, z = .ref K ∧ s₂.heap.get? K = none ∧ s₃.heap.IsList K (List.toArray js) ∧ js.length ≤ 10 ∧ Keeps s₂ s₃ ∧ (∀ v ∈ js, Pj v) ∧
      ∀ tv, tv ∈ ts → ∀ zs, Paired (f tv) js zs → g tv zs) FF s₂)
    (helt : ∀ tv v s₂ m₂, tv ∈ ts → Pj v → s₂.heap.Ns C m₂ → m₂ y = some v → m₂ x = some tv → Stay [C, D, I] s₀.heap s₂.heap → wpAny (model prog w) A (eval elt cenv) (fun r s₃ => f tv v r ∧ Keeps s₂ s₃) FF s₂) :
    ∀ (rest pre : List Value) (h : Heap) (tk : Nat) (m : Str → Option Value) (ys : Array Value), ts = pre ++ rest → h.IsListIter I T pre.length → h.IsList T ts.toArray → h.PlainList D ys → h.Ns C m → Stay [C, D, I] s₀.heap h → ys.size + 10 * rest.length ≤ 9000 →
      (∀ h' tk' m' (zss : List (List Value)), h'.Ns C m' → h'.PlainList D (ys ++ zss.flatten.toArray) → Paired g rest zss → Stay [C, D, I] s₀.heap h' → R (.ok .next) { s₀ with heap := h', toks := tk' }) →
      codeAny (model prog w) A (.compLoop (.ListComp elt [⟨.Name x px, iter0, [], 0⟩, ⟨.Name y py, iter1, [], 0⟩] scope pos) 0 (.ref I) (.ref D) cenv) R { s₀ with heap := h, toks := tk } := by
  intro rest
  have W := Walks.list (prog := prog) (w := w) hh I T hIT ts.toArray
  induction rest with
  | nil =>
    intro pre h tk m ys hts hI hT hD hN hS hsz hfin
    refine codeAny_of_tree ?_
    show wpAny _ _ ((compTurn (.ListComp elt [⟨.Name x px, iter0, [], 0⟩, ⟨.Name y py, iter1, [], 0⟩] scope pos) 0 (.ref I) (.ref D) cenv).onRaise (fun x => do noteFrame x cenv; theTreesLotGoes x)) _ _ _
    refine wpAny_onRaise (ff_mono ?_)
    rw [compTurn_out, Around.under_of_weight (by rfl)]
    refine wpAny_bind (wpAny_standAt (wpAny_bind ?_))
    have hl : pre.length = ts.toArray.size := by rw [hts]; simp
    refine W.done _ _ _ ⟨hl ▸ hI, hT⟩ fun h' tk' hk => ?_
    have hS' : Stay [C, D, I] h h' := fun b o hb e => hk b o (fun q => hb (by simp at q; simp [q])) e
    have e := hfin h' tk' m [] (hN.at' fun o e => hk _ o (by simp [hCI]) e) (by simpa using hD.at fun o e => hk _ o (by simp [hDI]) e) .nil (hS.trans hS')
    exact wpAny_pure e
  | cons tv rest ih =>
    intro pre h tk m ys hts hI hT hD hN hS hsz hfin
    refine codeAny_of_tree ?_
    show wpAny _ _ ((compTurn (.ListComp elt [⟨.Name x px, iter0, [], 0⟩, ⟨.Name y py, iter1, [], 0⟩] scope pos) 0 (.ref I) (.ref D) cenv).onRaise (fun x => do noteFrame x cenv; theTreesLotGoes x)) _ _ _
    refine wpAny_onRaise (ff_mono ?_)
    rw [compTurn_out, Around.under_of_weight (by rfl)]
    refine wpAny_bind (wpAny_standAt (wpAny_bind ?_))
    have hl : pre.length < ts.toArray.size := by rw [hts]; simp
    have hmem : tv ∈ ts := by rw [hts]; simp
    refine W.item pre.length _ _ _ hl ⟨hI, hT⟩ fun v' h1 tk1 hv' hst1 hk1 => ?_
    have ev : v' = tv := by
      have : ts.toArray[pre.length]? = some tv := by rw [hts]; simp
      rw [this] at hv'; exact (Option.some.inj hv').symm
    subst ev
    refine wpAny_bind (wpAny_of_eq (a := ()) rfl ?_)
    have hN1 : h1.Ns C m := hN.at' fun o e => hk1 _ o (by simp [hCI]) e
    refine wpAny_bind (wpAny_assign_Name (wpAny_storeName_local hx (hC ▸ hN1) (fun h2 hn2 hs2 => ?_) hp))
    rw [hC] at hn2 hs2
    have hS1 : Stay [C, D, I] h h1 := fun b o hb e => hk1 b o (fun q => hb (by simp at q; simp [q])) e
    have hS2 : Stay [C, D, I] h1 h2 := .of_same hs2 (by simp)
    have hD2 : h2.PlainList D ys := hD.at fun o e => hs2.extBut _ o hDC (hk1 _ o (by simp [hDI]) e)
    have hI2 : h2.IsListIter I T (pre.length + 1) := hst1.1.at fun o e => hs2.extBut _ o (Ne.symm hCI) e
    have hT2 : h2.IsList T ts.toArray := hst1.2.at fun o e => hs2.extBut _ o (Ne.symm hCT) e
    refine wpAny_bind (wpAny_mono (hiter _) (fun z s3 h3 => ?_) fun _ _ z => z)
    obtain ⟨K, js, rfl, hKn, hKl, hjl, ⟨h3, tk3, rfl, hk3⟩, hpj, hg⟩ := h3
    refine wpAny_bind (wpAny_standAt (wpAny_bind (wpAny_of_eq (hfs _) (wpAny_bind (wpAny_holding ?_)))))
    refine wpAny_pyIter_list hKl ?_
    dsimp only
    generalize hH4 : h3.push { cls := .type "list_iterator", data := .fields #[.ref K, .int 0 0] } = h4
    have hk4 : ∀ b o, h3.get? b = some o → h4.get? b = some o := fun b o e => hH4 ▸ Heap.get?_push_of_some _ e
    have hJ4 : h4.IsListIter h3.objs.size K 0 := hH4 ▸ isListIter_push
    have up : ∀ b o, h2.get? b = some o → h4.get? b = some o := fun b o e => hk4 b o (hk3 b o e)
    have lt : ∀ b o, h3.get? b = some o → b ≠ h3.objs.size := fun b o e => Nat.ne_of_lt (Heap.lt_size e)
    have hDo : ∃ o, h2.get? D = some o := by obtain ⟨n, e⟩ := hD2; exact ⟨_, e⟩
    have hCo : ∃ o, h2.get? C = some o := by obtain ⟨o, _, _, e, _⟩ := hn2; exact ⟨o, e⟩
    have hIo : ∃ o, h2.get? I = some o := by obtain ⟨o, e, _⟩ := hI2; exact ⟨o, e⟩
    have hTo : ∃ o, h2.get? T = some o := by obtain ⟨o, e, _⟩ := hT2; exact ⟨o, e⟩
    have ltJ : ∀ b, (∃ o, h2.get? b = some o) → b ≠ h3.objs.size := fun b ⟨o, e⟩ => lt b o (hk3 b o e)
    have neK : ∀ b, (∃ o, h2.get? b = some o) → b ≠ K := fun b ⟨o, e⟩ q => by rw [q, hKn] at e; cases e
    have hKo : ∃ o, h3.get? K = some o := by obtain ⟨o, e, _⟩ := hKl; exact ⟨o, e⟩
    refine wpAny_bind ?_
    unfold runOwn
    refine wpAny_onRaise (ff_mono (wpAny_run (h := none) ?_))
    show codeAny _ A _ _ _
    have hsl : ys.size + js.length ≤ 10000 := by simp at hsz; omega
    have inner := inner_loop (prog := prog) (w := w) (A := A) (R := fun r s' => match r with
        | .ok fl => wpAny (model prog w) A (again (.compLoop (.ListComp elt [⟨.Name x px, iter0, [], 0⟩, ⟨.Name y py, iter1, [], 0⟩] scope pos) 0 (.ref I) (.ref D) cenv))
            (fun fin s' => match fin with | .done f => R (.ok f) s' | .again c' => c'.quiet = true ∧ codeAny (model prog w) A c' R s') FF s'
        | .error e => FF e s') (iter0 := iter0) (iter1 := iter1) (px := px) (py := py) (scope := scope) (pos := pos) (elt := elt)
      (f := f v') (tv := v') (J := h3.objs.size) (K := K) (D := D) (C := C) (js := js) (x := x) (y := y) (cenv := cenv) hh hC hy hxy hp (by obtain ⟨o, e⟩ := hKo; exact lt K o e) hDC (ltJ D hDo) (neK D hDo) (ltJ C hCo) (neK C hCo)
      { s₀ with heap := h4, toks := tk3 }
      (fun v s₂ m₂ hvj hn hm1 hm2 hst => helt v' v s₂ m₂ hmem (hpj v hvj) hn hm1 hm2 (fun b o hb e => by
        have e2 := up b o ((hS.trans (hS1.trans hS2)) b o hb e)
        have e1 := (hS.trans (hS1.trans hS2)) b o hb e
        exact hst b o (by simp at hb ⊢; exact ⟨hb.1, hb.2.1, ltJ b ⟨o, e1⟩⟩) e2))
      js [] h4 tk3 (fun z => if z = x then some v' else m z) ys (by simp) hJ4 (hKl.at fun o e => hk4 _ o e) (hD2.at fun o e => up _ o e) (hn2.keeps up) (by simp) (Stay.refl _ _) hsl
    refine start_in (wpAny_pyIter_listiter hJ4 ⟨rfl, rfl⟩) (inner fun h5 tk5 m5 zs hn5 hm5 hD5 hP5 hS5 => ?_)
    refine wpAny_pure ⟨rfl, ?_⟩
    have up5 : ∀ b o, b ∉ [C, D] → h2.get? b = some o → h5.get? b = some o := fun b o hb e => hS5 b o (by simp at hb ⊢; exact ⟨hb.1, hb.2, ltJ b ⟨o, e⟩⟩) (up b o e)
    have hzl : zs.length = js.length := hP5.length.symm
    refine ih (pre ++ [v']) h5 tk5 m5 (ys ++ zs.toArray) (by rw [hts]; simp) ?_ ?_ hD5 hn5 ?_ (by simp at hsz ⊢; omega) ?_
    · rw [List.length_append, List.length_singleton]
      exact hI2.at fun o e => up5 _ o (by simp; exact ⟨Ne.symm hCI, Ne.symm hDI⟩) e
    · exact hT2.at fun o e => up5 _ o (by simp; exact ⟨Ne.symm hCT, Ne.symm hDT⟩) e
    · exact (hS.trans (hS1.trans hS2)).trans fun b o hb e => up5 b o (by simp at hb ⊢; exact ⟨hb.1, hb.2.1⟩) e
    · intro h' tk' m' zss hn' hD' hP' hS'
      refine hfin h' tk' m' (zs :: zss) hn' ?_ (.cons (hg v' hmem zs hP5) hP') hS'
      have : ys ++ (zs :: zss).flatten.toArray = ys ++ zs.toArray ++ zss.flatten.toArray := by simp
      rw [this]; exact hD'
theorem for_list {env : Env} {s : Shared} {L I l : Addr} {wr : List Addr} {body : List Stmt} {items : List Value} {m : Str → Option Value} (hh : A.handled = none) (hL : env.locals = L) (hx : env.kindOf x = some .local)
    (hp : (env.scope.kind == .class || (env.scope.kind == .module && env.locals != env.globals)) = false) (hIL : I ≠ L) (hlL : l ≠ L) (hlI : l ≠ I) (hIw : I ∉ wr) (hlw : l ∉ wr)
    (J : Nat → (Str → Option Value) → Heap → Prop) (hJ : ∀ i m h h', h.Ns L m → h.IsListIter I l i → J i m h → Stay [I] h h' → J i m h')
    (step : ∀ i v m₁ h₀ h₁ tk₁, items[i]? = some v → J i m₁ h₀ → h₀.Ns L m₁ → h₁.Ns L (fun y => if y = x then some v else m₁ y) → Heap.SameBut L h₀ h₁ → Stay (L :: I :: wr) s.heap h₁ →
      wpAny (model prog w) A (execs body env) (fun f s₂ => f = .next ∧ ∃ h₂ tk₂ m₂, s₂ = { s with heap := h₂, toks := tk₂ } ∧ Stay (L :: wr) h₁ h₂ ∧ h₂.Ns L m₂ ∧ J (i + 1) m₂ h₂) FF { s with heap := h₁, toks := tk₁ })
    (hit : s.heap.IsListIter I l 0) (hl : s.heap.IsList l items.toArray) (hn : s.heap.Ns L m) (h0 : J 0 m s.heap)
    (hR : ∀ h' tk m', h'.Ns L m' → J items.length m' h' → Stay (L :: I :: wr) s.heap h' → R (.ok .next) { s with heap := h', toks := tk }) :
    codeAny (model prog w) A (.forLoop (.Name x px) (.ref I) body [] env) R s := by
  refine codeAny_forLoop
    (fun n s' => ∃ h' tk m' i, s' = { s with heap := h', toks := tk } ∧ h'.IsListIter I l i ∧ h'.IsList l items.toArray ∧ h'.Ns L m' ∧ J i m' h' ∧ i ≤ items.length ∧ n = items.length + 1 - i ∧ Stay (L :: I :: wr) s.heap h')
    ?_ (items.length + 1) ⟨s.heap, s.toks, m, 0, rfl, hit, hl, hn, h0, Nat.zero_le _, rfl, Stay.refl _ _⟩
  rintro n s' ⟨h', tk, m', i, rfl, hit', hl', hn', hJ', hi, rfl, hk⟩
  cases hv : items[i]? with
  | none =>
    have hsz : i = items.length := Nat.le_antisymm hi (by simpa using hv)
    refine wpAny_pyNext_list_end hh hit' hl' (by simpa using hv) fun h₁ he₁ => wpAny_execs_nil ?_
    have st : Stay [I] h' h₁ := fun b o hb e => he₁ b o (by simpa using hb) e
    exact hR h₁ tk m' (hn'.extBut he₁ (Ne.symm hIL)) (hsz ▸ hJ i m' h' h₁ hn' hit' hJ' st) (hk.trans (st.mono fun b hb => by simp at hb; simp [hb]))
  | some v =>
    have hlt : i < items.length := (List.getElem?_eq_some_iff.mp hv).1
    refine wpAny_pyNext_list_item hit' hl' (x := v) (by simpa using hv) fun h₁ hit₁ hs₁ => ?_
    have st1 : Stay [I] h' h₁ := .of_same hs₁ (by simp)
    have hn1 : h₁.Ns L m' := hn'.sameBut hs₁ (Ne.symm hIL)
    refine wpAny_assign_Name (wpAny_storeName_local hx (hL ▸ hn1) (fun h₂ hn₂ hs₂ => ?_) hp)
    rw [hL] at hn₂ hs₂
    have st2 : Stay [L] h₁ h₂ := .of_same hs₂ (by simp)
    have st12 : Stay (L :: I :: wr) h' h₂ := (st1.mono fun b hb => by simp at hb; simp [hb]).trans (st2.mono fun b hb => by simp at hb; simp [hb])
    refine ff_mono (wpAny_mono (step i v m' h₁ h₂ (tk + 1) hv (hJ i m' h' h₁ hn' hit' hJ' st1) hn1 hn₂ hs₂ (hk.trans st12)) (fun f s₃ h₃ => ?_) fun _ _ e => e)
    obtain ⟨rfl, h₃', tk₃, m₂, rfl, hs₃, hn₃, hJ₃⟩ := h₃
    refine ⟨items.length + 1 - (i + 1), by omega, h₃', tk₃, m₂, i + 1, rfl, ?_, ?_, hn₃, hJ₃, hlt, rfl, (hk.trans st12).trans (hs₃.mono fun b hb => by simp at hb; rcases hb with hb | hb <;> simp [hb])⟩
    · exact (hit₁.extBut hs₂.extBut hIL).at fun o e => hs₃ _ o (by simp [hIL, hIw]) e
    · exact ((hl'.extBut hs₁.extBut hlI).extBut hs₂.extBut hlL).at fun o e => hs₃ _ o (by simp [hlL, hlw]) e
/-- a turn's end -/
def TurnEnd (s : Shared) (L I l : Addr) (items : List Value) (J : Nat → (Str → Option Value) → Heap → Prop) (i : Nat) (f : Flow) (s₂ : Shared) : Prop :=
  f = .next ∧ ∃ h₂ tk₂ m₂, s₂ = { s with heap := h₂, toks := tk₂ } ∧ h₂.Ns L m₂ ∧ h₂.IsListIter I l (i + 1) ∧ h₂.IsList l items.toArray ∧ J (i + 1) m₂ h₂
theorem for_list2 {env : Env} {s : Shared} {L I l : Addr} {body : List Stmt} {items : List Value} {m : Str → Option Value} (hh : A.handled = none) (hL : env.locals = L) (hx : env.kindOf x = some .local)
    (hp : (env.scope.kind == .class || (env.scope.kind == .module && env.locals != env.globals)) = false) (hIL : I ≠ L) (hlL : l ≠ L) (hlI : l ≠ I)
    (J : Nat → (Str → Option Value) → Heap → Prop) (hJ : ∀ i m h h', h.Ns L m → h.IsListIter I l i → J i m h → Stay [I] h h' → J i m h')
    (step : ∀ i v m₁ h₀ h₁ tk₁, items[i]? = some v → J i m₁ h₀ → h₀.Ns L m₁ → h₁.Ns L (fun y => if y = x then some v else m₁ y) → Heap.SameBut L h₀ h₁ → h₁.IsListIter I l (i + 1) → h₁.IsList l items.toArray →
      wpAny (model prog w) A (execs body env) (TurnEnd s L I l items J i) FF { s with heap := h₁, toks := tk₁ })
    (hit : s.heap.IsListIter I l 0) (hl : s.heap.IsList l items.toArray) (hn : s.heap.Ns L m) (h0 : J 0 m s.heap)
    (hR : ∀ h' tk m', h'.Ns L m' → J items.length m' h' → R (.ok .next) { s with heap := h', toks := tk }) :
    codeAny (model prog w) A (.forLoop (.Name x px) (.ref I) body [] env) R s := by
  refine codeAny_forLoop
    (fun n s' => ∃ h' tk m' i, s' = { s with heap := h', toks := tk } ∧ h'.IsListIter I l i ∧ h'.IsList l items.toArray ∧ h'.Ns L m' ∧ J i m' h' ∧ i ≤ items.length ∧ n = items.length + 1 - i)
    ?_ (items.length + 1) ⟨s.heap, s.toks, m, 0, rfl, hit, hl, hn, h0, Nat.zero_le _, rfl⟩
  rintro n s' ⟨h', tk, m', i, rfl, hit', hl', hn', hJ', hi, rfl⟩
  cases hv : items[i]? with
  | none =>
    have hsz : i = items.length := Nat.le_antisymm hi (by simpa using hv)
    refine wpAny_pyNext_list_end hh hit' hl' (by simpa using hv) fun h₁ he₁ => wpAny_execs_nil ?_
    have st : Stay [I] h' h₁ := fun b o hb e => he₁ b o (by simpa using hb) e
    exact hR h₁ tk m' (hn'.extBut he₁ (Ne.symm hIL)) (hsz ▸ hJ i m' h' h₁ hn' hit' hJ' st)
  | some v =>
    have hlt : i < items.length := (List.getElem?_eq_some_iff.mp hv).1
    refine wpAny_pyNext_list_item hit' hl' (x := v) (by simpa using hv) fun h₁ hit₁ hs₁ => ?_
    have st1 : Stay [I] h' h₁ := .of_same hs₁ (by simp)
    have hn1 : h₁.Ns L m' := hn'.sameBut hs₁ (Ne.symm hIL)
    refine wpAny_assign_Name (wpAny_storeName_local hx (hL ▸ hn1) (fun h₂ hn₂ hs₂ => ?_) hp)
    rw [hL] at hn₂ hs₂
    refine ff_mono (wpAny_mono (step i v m' h₁ h₂ (tk + 1) hv (hJ i m' h' h₁ hn' hit' hJ' st1) hn1 hn₂ hs₂ (hit₁.extBut hs₂.extBut hIL) ((hl'.extBut hs₁.extBut hlI).extBut hs₂.extBut hlL)) (fun f s₃ h₃ => ?_) fun _ _ e => e)
    obtain ⟨rfl, h₃', tk₃, m₂, rfl, hn₃, hi₃, hl₃, hJ₃⟩ := h₃
    exact ⟨items.length + 1 - (i + 1), by omega, h₃', tk₃, m₂, i + 1, rfl, hi₃, hl₃, hn₃, hJ₃, hlt, rfl⟩
end
end Mine
end
section
open PySem PyProof.Rows
set_option maxRecDepth 100000
namespace Mine
section
variable {prog : Program} {w : World} {A : Around} {E : Value → Shared → Prop} {s : Shared} {elt iter0 iter1 : Expr} {x y v : Str} {px py pv : Pos} {scope : Scope} {pos spos : Pos} {env : Env} {cl : List (Str × Addr)} {h₀ : Heap} {L : Addr} {m : Str → Option Value} {news : List (Addr × Obj)} {Q : Flow → Shared → Prop}
theorem start_out {s : Shared} {jt acc : Value} {cenv : Env} {R : Result → Shared → Prop} (h : wpAny (model prog w) A (pyIter jt) (fun it' s' => it' = jt ∧ s' = s) FF s)
    (h0 : codeAny (model prog w) A (.compLoop (.ListComp elt [⟨.Name x px, iter0, [], 0⟩, ⟨.Name y py, iter1, [], 0⟩] scope pos) 0 jt acc cenv) R s) :
    codeAny (model prog w) A (.compStart (.ListComp elt [⟨.Name x px, iter0, [], 0⟩, ⟨.Name y py, iter1, [], 0⟩] scope pos) 0 jt acc cenv) R s :=
  codeAny_compStart_list h0 (wpAny_mono h (fun it' s' h' => by obtain ⟨rfl, rfl⟩ := h'; exact h0) fun _ _ z => z.elim)

theorem assign_nested {T : Addr} {ts : List Value} {g : Value → List Value → Prop} {f : Value → Value → Value → Prop} {Pj : Value → Prop} (hh : A.handled = none)
    (hsw : swapsWith (.ListComp elt [⟨.Name x px, iter0, [], 0⟩, ⟨.Name y py, iter1, [], 0⟩] scope pos) (some (.Name v pv)) spos.line env = pure true)
    (hclos : closureFor scope env = pure cl) (hcell : ∀ z ∈ scope.names, z.2 ≠ .cell) (hkind : scope.kind = .function)
    (hnames : ∀ z ∈ scope.names, z.2 = .local → scope.names.lookup z.1 = some .local) (hx : scope.names.lookup x = some .local) (hy : scope.names.lookup y = some .local) (hxy : x ≠ y)
    (hv : env.kindOf v = some .local) (hp : (env.scope.kind == .class || (env.scope.kind == .module && env.locals != env.globals)) = false) (hL : env.locals = L)
    (hfs0 : ∀ z, foldedSetIterable iter0 env z = pure z) (hfs : ∀ C z, foldedSetIterable iter1 (compEnvC scope cl C env) z = pure z)
    (F : Fr h₀ L s.heap m) (N : News h₀ L s.heap news)
    (hit : wpAny (model prog w) A (eval iter0 env) (fun xv s₁ => xv = .ref T ∧ s₁ = s) FF s) (hT : s.heap.IsList T ts.toArray) (hTL : T ≠ L) (hlen : ts.length ≤ 800)
    (hiter : ∀ C s₂, wpAny (model prog w) A (eval iter1 (compEnvC scope cl C env)) (fun z s₃ => ∃ K js, z = .ref K ∧ s₂.heap.get? K = none ∧ s₃.heap.IsList K (List.toArray js) ∧ js.length ≤ 10 ∧ Keeps s₂ s₃ ∧ (∀ v ∈ js, Pj v) ∧
      ∀ tv, tv ∈ ts → ∀ zs, Paired (f tv) js zs → g tv zs) FF s₂)
    (helt : ∀ C tv u s₂ m₂, tv ∈ ts → Pj u → s₂.heap.Ns C m₂ → m₂ y = some u → m₂ x = some tv → (∀ b o, s.heap.get? b = some o → s₂.heap.get? b = some o) → wpAny (model prog w) A (eval elt (compEnvC scope cl C env)) (fun r s₃ => f tv u r ∧ Keeps s₂ s₃) FF s₂)
    (hQ : ∀ D n h' tk zss, Fr h₀ L h' (fun z => if z = v then some (.ref D) else m z) → News h₀ L h' ((D, { cls := .type "list", data := .seq (List.flatten zss).toArray n }) :: news) → Paired g ts zss → s.heap.get? D = none → Stay [L] s.heap h' → Q .next { s with heap := h', toks := tk }) :
    wpAny (model prog w) A (exec (.Assign [.Name v pv] (.ListComp elt [⟨.Name x px, iter0, [], 0⟩, ⟨.Name y py, iter1, [], 0⟩] scope pos) spos) env) Q E s := by
  refine ff_mono ?_
  rw [exec_Assign_Name_used _ _ _ _ hsw]
  refine wpAny_bind (wpAny_standAt (wpAny_bind ?_))
  show wpAny _ A (do let _ ← comprehension (.ListComp elt [⟨.Name x px, iter0, [], 0⟩, ⟨.Name y py, iter1, [], 0⟩] scope pos) scope env _ (newList []) false (eval iter0 env) (some (assign (.Name v pv) env))) _ _ s
  refine wpAny_bind (wpAny_mono (wpAny_comprehension_free (use := some (assign (.Name v pv) env)) (Q := fun _ s' => Q .next s') rfl hfs0 hclos hkind hnames
    (wpAny_mono hit (fun xv s₁ h₁ => ?_) fun _ _ e => e)) (fun _ s' hq => wpAny_pure (wpAny_pure hq)) fun _ _ e => e)
  obtain ⟨rfl, rfl⟩ := h₁
  refine wpAny_pyIter_list hT ?_
  generalize hH2 : s₁.heap.push { cls := .type "list_iterator", data := .fields #[.ref T, .int 0 0] } = H2
  have hI2 : H2.IsListIter s₁.heap.objs.size T 0 := hH2 ▸ isListIter_push
  have k2 : ∀ b o, s₁.heap.get? b = some o → H2.get? b = some o := fun b o e => hH2 ▸ Heap.get?_push_of_some _ e
  have z2 : H2.objs.size = s₁.heap.objs.size + 1 := by rw [← hH2, Heap.size_push]
  refine wpAny_newObj_type (wpAny_newFunctionEnv hcell (by intro y hy; simp at hy) (fun h₁ hns₁ hsb₁ => ?_) hkind)
  dsimp only at hns₁ hsb₁ ⊢
  generalize hH3 : H2.push { cls := .type "list", dict := none, data := .seq ([] : List Value).toArray } = H3 at hns₁ hsb₁ ⊢
  have k3 : ∀ b o, H2.get? b = some o → H3.get? b = some o := fun b o e => hH3 ▸ Heap.get?_push_of_some _ e
  have z3 : H3.objs.size = H2.objs.size + 1 := by rw [← hH3, Heap.size_push]
  have k4 : ∀ b o, H3.get? b = some o → h₁.get? b = some o := fun b o e => hsb₁.extBut b o (Nat.ne_of_lt (Heap.lt_size e)) (Heap.get?_push_of_some _ e)
  have up : ∀ b o, s₁.heap.get? b = some o → h₁.get? b = some o := fun b o e => k4 b o (k3 b o (k2 b o e))
  have hTlt : @LT.lt Nat instLTNat T s₁.heap.objs.size := by obtain ⟨o, e, _⟩ := hT; exact Heap.lt_size e
  have hLo : ∃ o, s₁.heap.get? L = some o := by obtain ⟨o, _, _, e, _⟩ := F.ns; exact ⟨o, e⟩
  have hLlt : @LT.lt Nat instLTNat L s₁.heap.objs.size := by obtain ⟨o, e⟩ := hLo; exact Heap.lt_size e
  have fresh : ∀ a, s₁.heap.objs.size ≤ a → s₁.heap.get? a = none := fun a ha => by
    cases e : s₁.heap.get? a with
    | none => rfl
    | some o' => exact absurd (Heap.lt_size e) (Nat.not_lt.mpr ha)
  have hD1 : h₁.PlainList H2.objs.size #[] := ⟨0, k4 _ _ (hH3 ▸ Heap.get?_push_size _ rfl)⟩
  have hlt : ∀ b, b < s₁.heap.objs.size → b ∉ [H3.objs.size, H2.objs.size, s₁.heap.objs.size] := fun b hb => by simp; omega
  have keepAll : ∀ {h' : Heap}, Stay [H3.objs.size, H2.objs.size, s₁.heap.objs.size] h₁ h' → ∀ b o, s₁.heap.get? b = some o → h'.get? b = some o := fun {h'} st b o e => st b o (hlt b (Heap.lt_size e)) (up b o e)
  have loop := outer_loop (prog := prog) (w := w) (A := A) (R := compPost (model prog w) A FF (some (assign (.Name v pv) env)) (fun _ s' => Q .next s') (.ref H2.objs.size) H3.objs.size) (iter0 := iter0) (iter1 := iter1) (px := px) (py := py) (scope := scope) (pos := pos) (elt := elt)
    (I := s₁.heap.objs.size) (T := T) (D := H2.objs.size) (C := H3.objs.size) (ts := ts) (g := g) (f := f) (Pj := Pj) (x := x) (y := y) (cenv := compEnvC scope cl H3.objs.size env)
    hh rfl (lookup_relabel_local hx) (lookup_relabel_local hy) hxy (by simp [compEnvC, relabel, hkind]) (hfs _) (Nat.ne_of_lt hTlt) (Nat.ne_of_lt (by omega)) (Nat.ne_of_gt (by omega)) (Nat.ne_of_gt (by omega)) (Nat.ne_of_gt (by omega)) (Nat.ne_of_gt (by omega))
    { s₁ with heap := h₁, toks := s₁.toks + ([] : List (Str × Value)).length } (hiter _)
    (fun tv u s₂ m₂ htv hpu hn hm1 hm2 hst => helt _ tv u s₂ m₂ htv hpu hn hm1 hm2 (keepAll hst))
    ts [] h₁ (s₁.toks + ([] : List (Str × Value)).length) _ #[] (by simp) (hI2.at fun o e => k4 _ o (k3 _ o e)) (hT.at fun o e => up _ o e) hD1 hns₁ (Stay.refl _ _) (by simp; omega)
  refine start_out (wpAny_pyIter_listiter (hI2.at fun o e => k4 _ o (k3 _ o e)) ⟨rfl, rfl⟩) (loop fun h' tk' m' zss hn' hD' hP' hS' => ?_)
  have K := keepAll hS'
  show wpAny _ A (assign (.Name v pv) env (.ref H2.objs.size)) _ _ _
  refine wpAny_assign_Name (wpAny_storeName_local hv (hL ▸ F.ns.keeps K) (fun h₂ hn₂ hs₂ => ?_) hp)
  rw [hL] at hn₂ hs₂
  refine ⟨m', hn'.sameBut hs₂ (Nat.ne_of_gt (by omega)), fun h₃ hs₃ => ?_⟩
  obtain ⟨n, hD'⟩ := hD'
  have st : Stay [L] s₁.heap h₃ := fun b o hb e => hs₃.extBut b o (fun z => by subst z; rw [fresh _ (by show s₁.heap.objs.size ≤ H3.objs.size; omega)] at e; cases e) (hs₂.extBut b o (by simpa using hb) (K b o e))
  have hn₃ : h₃.Ns L (fun z => if z = v then some (.ref H2.objs.size) else m z) := hn₂.sameBut hs₃ (Nat.ne_of_lt (by omega))
  refine hQ H2.objs.size n h₃ _ zss ⟨hn₃, fun b o e => ?_, F.above⟩ (fun p hp => ?_) hP' (fresh _ (by omega)) st
  · exact st b o (fun z => by simp at z; subst z; exact absurd (Heap.lt_size e) (Nat.not_lt.mpr F.above)) (F.keep b o e)
  · rcases List.mem_cons.mp hp with rfl | hp
    · refine ⟨?_, Nat.ne_of_gt (by show @LT.lt Nat instLTNat L H2.objs.size; omega), ?_⟩
      · show h₃.get? H2.objs.size = _
        have := hs₃.extBut _ _ (Nat.ne_of_lt (by omega)) (hs₂.extBut _ _ (Nat.ne_of_gt (by omega)) hD')
        simpa using this
      · cases q : h₀.get? H2.objs.size with
        | none => rfl
        | some o => have := F.keep _ _ q; rw [fresh _ (by omega)] at this; cases this
    · exact ⟨st _ _ (by simpa using (N p hp).2.1) (N p hp).1, (N p hp).2⟩
end
end Mine
end
section
open PySem PySem.W PySem.Calls PyProof.Rows
set_option Elab.async false
set_option maxRecDepth 100000
namespace Mine
theorem call_iter {prog : Program} {w : World} {A : Around} {E : Value → Shared → Prop} {s : Shared} {l : Addr} {items : Array Value} {Q : Value → Shared → Prop} (hl : s.heap.IsList l items)
    (h : Q (.ref s.heap.objs.size) { s with heap := s.heap.push { cls := .type "list_iterator", data := .fields #[.ref l, .int 0 0] } }) : wpAny (model prog w) A (call (.builtin "iter") [.ref l]) Q E s := by
  refine call_function_entry (by decide +kernel) (by decide +kernel) kdk_entry_iter (kdk_args_iter _) ?_
  unfold Builtin.«iter»
  refine wpAny_bind (m := someArgs "iter" 1 2 _) (wpAny_of_eq (a := [Value.ref l]) (by first | rfl | kernel_rfl!) ?_)
  dsimp only
  exact wpAny_bind (wpAny_pyIter_list hl (wpAny_pure ⟨_, rfl, h⟩))
theorem callWith_any {M : Model} {A : Around} {E : Value → Shared → Prop} {s : Shared} {env : Env} {pos : Pos} {f : Value} {first : List Value} {Q : Value → Shared → Prop} {P : Heap → Prop} {e : PySem.Expr} {rest : List PySem.Expr}
    (hk : ∀ h, P h → ∃ k, (k = Keeper.frame ∨ k = Keeper.machine ∨ k = Keeper.boundFrame) ∧ Looks M h (keeperOf f) k)
    (h : wpAny M A (spliced (backTo pos (starEach (e :: rest) env))) (fun vs s₁ => P s₁.heap ∧ wpAny M A (call f (first ++ vs)) Q E s₁) E s)
    (he : starEach (e :: rest) env = (false, eval e env) :: starEach rest env) (hplain : (backTo pos (starEach rest env)).any (·.1) = false) :
    wpAny M A (callWith pos f first (backTo pos (starEach (e :: rest) env)) []) Q E s := by
  rw [he] at h ⊢
  exact callWith_of (by show ((false || (backTo pos (starEach rest env)).any (·.1)) || false) = false; rw [hplain]; rfl) hk (evalArgs_plain h)
set_option maxHeartbeats 8000000 in
theorem c_reduce {w : World} {p : Program} {loose : List Str} {mean : ExcName → Option Value} {mg mb : Str → Option Value} {dp un : Nat} {fr : Option (List Env)} {gd : Option (List Code)} {s : Shared} {l : Addr} {fv init : Value} {items : List Value} {P : Nat → Value → Heap → Prop} (G : Gd w p loose mean mg mb s.heap) (hdp : dp < 800) (hl : s.heap.IsList l items.toArray) (hlen : items.length ≤ 100)
    (hIs : ∀ (A : Around) (E Q : Value → Shared → Prop) (s' : Shared), s.heap.StaysIn s'.heap → Q (.bool false) s' → wpAny (model Challenge.rw_nb0035_01.row.prog w) A (compareOp .Is init (.ref 56)) Q E s')
    (hkp : ∀ h, s.heap.StaysIn h → ∃ k, (k = Keeper.frame ∨ k = Keeper.machine ∨ k = Keeper.boundFrame) ∧ Looks (model Challenge.rw_nb0035_01.row.prog w) h (keeperOf fv) k)
    (hm1 : ∀ i v h h' L m, h.Ns L m → P i v h → Stay [L] h h' → P i v h') (hm2 : ∀ i v h h' it l j, h.IsListIter it l j → P i v h → Stay [it] h h' → P i v h')
    (hst : ∀ (A : Around) i v x s', A.handled = none → A.depth = dp + 1 → items[i]? = some x → P i v s'.heap → s.heap.StaysIn s'.heap → codeAny (model Challenge.rw_nb0035_01.row.prog w) A (.call fv ⟨[v, x], []⟩) (Got s' (P (i + 1))) s')
    (hm0 : ∀ h, s.heap.StaysIn h → P 0 init h) :
    codeAny (model Challenge.rw_nb0035_01.row.prog w) ({ handled := none, depth := dp, frames := fr, guards := gd, units := un } : Around) (.call (.ref 64) ⟨[fv, .ref l, init], []⟩) (Got s (P items.length)) s := by
  have X := G.X
  have T := G.T
  (have kfil : (fun (_ : Challenge.rw_nb0035_01.row.prog = Challenge.rw_nb0035_01.row.prog) => Mine.hd.heap_39) = (fun _ => Mine.hd.heap_39) := by k_fill; rfl); clear kfil
  refine' code_in (binds := [(Str.ofString "function", fv), (Str.ofString "sequence", .ref l), (Str.ofString "initial", init)]) G ?k6 ?k7 ?k8 ?k9 ?kB ?_ ?c2 ?c3 ?c4 ?c5; (case k6 => k_is); (case k7 => k_is); (case k8 => (try dsimp only); simp only [recursionLimit]; omega); (case k9 => first | exact BindsTo.of_eq rfl | exact binds_K G.X rfl (by k_is) rfl rfl rfl); (case c5 => decide); (case kB => exact locs rfl); (case c2 => exact rfl); (case c3 => exact rfl); (case c4 => exact rfl)
  intro h₁ F N
  k_fold
  k_steps
  refine call_iter (hl.at fun o e => F.keep _ o e) ?_
  have hI0 : (h₁.push { cls := .type "list_iterator", data := .fields #[.ref l, .int 0 0] }).IsListIter h₁.objs.size l 0 := isListIter_push
  have F2 := F.push { cls := .type "list_iterator", data := .fields #[.ref l, .int 0 0] }
  have N2 := N.push F { cls := .type "list_iterator", data := .fields #[.ref l, .int 0 0] }
  dsimp only
  generalize h₁.push { cls := .type "list_iterator", data := .fields #[.ref l, .int 0 0] } = h₂ at F2 N2 hI0
  generalize hI : h₁.objs.size = I at N2 hI0
  clear N F
  k_steps
  refine hIs _ _ _ _ (Fr.keep (by assumption)) ?_
  iterate 8 (first | (k_unfold; (try dsimp only)) | (k_end; kc_close) | walk1 | (dsimp only; walk1) | (leave1; walk_say "STEP leave1"; (try dsimp only)))
  rename Fr _ _ _ _ => F3
  rename News _ _ _ _ => N3
  rename Heap => h₃
  have M3 := N3 _ (List.mem_cons_self ..)
  have hI3 : h₃.IsListIter I l 0 := ⟨_, M3.1, rfl, rfl⟩
  have hlo : ∃ o, s.heap.get? l = some o := by obtain ⟨o, e, _⟩ := hl; exact ⟨o, e⟩
  have hlL : l ≠ s.heap.objs.size := by obtain ⟨o, e⟩ := hlo; exact Nat.ne_of_lt (Heap.lt_size e)
  have hlI : l ≠ I := by obtain ⟨o, e⟩ := hlo; intro z; have := M3.2.2; rw [← z, e] at this; cases this
  refine wpAny_For (wpAny_Name (wpAny_loadName_local rfl rfl F3.ns rfl ?_) (by decide)) (fun _ => rfl)
  refine wpAny_pyIter_listiter hI3 ?_
  refine for_list (L := s.heap.objs.size) (l := l) (items := items) (wr := []) rfl rfl rfl rfl M3.2.1 hlL hlI (by simp) (by simp)
    (fun i m h => m (Str.ofString "function") = some fv ∧ ∃ v, m (Str.ofString "value") = some v ∧ P i v h) ?hJ ?step hI3 (hl.at fun o e => F3.keep _ o e) F3.ns ?h0 ?hR
  case hJ =>
    rintro i m h h' hn hit ⟨a, v, b, c⟩ st
    exact ⟨a, v, b, hm2 i v h h' I l i hit c st⟩
  case h0 => exact ⟨rfl, init, rfl, hm0 h₃ F3.keep⟩
  case step =>
    rintro i v m₁ g₀ g₁ tk₁ hv ⟨hfn, u, hvl, hP⟩ hn0 hn1 hsb hSt
    have hP1 : P i u g₁ := hm1 i u g₀ g₁ _ _ hn0 hP (.of_same hsb (by simp))
    have hk1 : s.heap.StaysIn g₁ := fun b o e => hSt b o (by
      have h1 : b ≠ s.heap.objs.size := Nat.ne_of_lt (Heap.lt_size e)
      have h2 : b ≠ I := fun z => by have := M3.2.2; rw [← z, e] at this; cases this
      simp [h1, h2]) (F3.keep b o e)
    have hmap : (fun y => if y = Str.ofString "element" then some v else m₁ y) = (fun y => if y = Str.ofString "element" then some v else if y = Str.ofString "function" then some fv else if y = Str.ofString "value" then some u else m₁ y) := by
      funext y
      by_cases e1 : y = Str.ofString "element"
      · simp [e1]
      · by_cases e2 : y = Str.ofString "function"
        · rw [e2, if_neg (by decide +kernel), if_neg (by decide +kernel), if_pos rfl, hfn]
        · by_cases e3 : y = Str.ofString "value"
          · rw [e3, if_neg (by decide +kernel), if_neg (by decide +kernel), if_neg (by decide +kernel), if_pos rfl, hvl]
          · simp [e1, e2, e3]
    rw [hmap] at hn1
    have Fg : Fr s.heap s.heap.objs.size g₁ _ := ⟨hn1, hk1, Nat.le_refl _⟩
    have Ng : News s.heap s.heap.objs.size g₁ [] := News.nil
    clear F3 N3 hn1
    k_steps
    refine callWith_any (P := fun h => s.heap.StaysIn h) hkp ?_ (by rfl) (by rfl)
    k_steps
    · exact hk1
    refine got_call (hst _ i u v _ rfl rfl hv hP1 hk1) ?_
    intro v' g₂ tk₂ hk₂ hP2
    refine wpAny_storeName_local rfl (Fg.ns.keeps hk₂) (fun g₃ hn₃ hs₃ => ?_) rfl
    refine wpAny_execs_nil ?_
    have hs₃' : Heap.SameBut s.heap.objs.size g₂ g₃ := hs₃
    exact ⟨rfl, g₃, _, _, rfl, (Stay.of_keep hk₂).trans (.of_same hs₃' (List.mem_singleton.mpr rfl)), hn₃, rfl, v', rfl, hm1 _ _ _ _ _ _ (Fg.ns.keeps hk₂) hP2 (.of_same hs₃' (List.mem_singleton.mpr rfl))⟩
  case hR =>
    rintro h' tk' m' hn' ⟨hfn, u, hvl, hP⟩ hSt
    have hk1 : s.heap.StaysIn h' := fun b o e => hSt b o (by
      have h1 : b ≠ s.heap.objs.size := Nat.ne_of_lt (Heap.lt_size e)
      have h2 : b ≠ I := fun z => by have := M3.2.2; rw [← z, e] at this; cases this
      simp [h1, h2]) (F3.keep b o e)
    have hmap : m' = (fun y => if y = Str.ofString "value" then some u else m' y) := by
      funext y
      by_cases e3 : y = Str.ofString "value"
      · rw [e3, if_pos rfl, hvl]
      · rw [if_neg e3]
    rw [hmap] at hn'
    have Fg : Fr s.heap s.heap.objs.size h' _ := ⟨hn', hk1, Nat.le_refl _⟩
    have Ng : News s.heap s.heap.objs.size h' [] := News.nil
    clear F3 N3 hn'
    k_steps
    exact got_of Fg hP
end Mine
end
section
open PySem PySem.W PySem.Calls PyProof.Rows
set_option Elab.async false
set_option maxRecDepth 100000
namespace Mine
def tabV (z : Int) : Int := if z = 0 then 1 else if z = 1 then 3 else if z = 2 then 8 else 21
/-- a lambda of the text's called: all that stands at the call is its ground -/
theorem code_lam {w : World} {A : Around} {s : Shared} {R : Result → Shared → Prop} {name qual : Str} {params : Arguments} {body : PySem.Expr} {scope : Scope} {pm ctv : Value} {c' f : Addr} {args : Args} {binds : List (Str × Value)}
    (hlim : s.heap.NoLimit) (ho : s.heap.get? f = some (kla_obj name qual params body scope [] pm c' ctv)) (hcd : s.heap.CodeRec (.ref c') qual) (hroom : A.depth < recursionLimit)
    (hbind : bindArgs (kla_fn name qual params body scope [] pm (.ref c') ctv) args = pure binds) (hloc : ∀ y ∈ binds, scope.names.lookup y.1 = some .local)
    (h : ∀ h₁, Fr s.heap s.heap.objs.size h₁ (fun y => binds.reverse.lookup y) → News s.heap s.heap.objs.size h₁ [] →
      wpAny (model Challenge.rw_nb0035_01.row.prog w) (A.deeper (envX qual scope s.heap.objs.size f (.ref c') [])) (eval body (envX qual scope s.heap.objs.size f (.ref c') []))
        (fun v s' => R (.ok (.ret v)) s') (fun _ _ => False) { s with heap := h₁, toks := s.toks + binds.length })
    (hco : scope.isCoroutine = false) (hgen : scope.isGenerator = false) (hk : scope.kind = .function)
    (hcell : ∀ x ∈ scope.names, x.2 ≠ .cell) : codeAny (model Challenge.rw_nb0035_01.row.prog w) A (.call (.ref f) args) R s := by
  refine kla_callFunE hroom ho rfl hco hgen rfl hcd ?_
  rw [hbind]
  refine wpAny_pure (wpAny_newFunctionEnv hcell hloc (fun h₁ hns hsb => ⟨hlim.fresh _ hsb, ?_⟩) hk)
  show codeAny _ _ (.expr body (envX qual scope s.heap.objs.size f (.ref c') [])) _ _
  have hk₁ : ∀ b o, s.heap.get? b = some o → h₁.get? b = some o := fun b o e => hsb.extBut b o (Nat.ne_of_lt (Heap.lt_size e)) (Heap.get?_push_of_some _ e)
  exact kla_codeExpr (wpAny_mono (h h₁ ⟨hns, hk₁, Nat.le_refl _⟩ News.nil) (fun _ _ x => x) (fun _ _ x => x.elim))
end Mine
end
section
open PySem PySem.W PySem.Calls PyProof.Rows
set_option Elab.async false
set_option maxRecDepth 100000
namespace Mine
theorem item_last {prog : Program} {w : World} {A : Around} {E : Value → Shared → Prop} {s : Shared} {value slice : PySem.Expr} {l : Addr} {vs : List Value} {v : Value} {u : Tok} {Q : Value → Shared → Prop}
    (hl : s.heap.IsList l (vs ++ [v]).toArray) (hz : vs.length ≤ 1000) (h : Q v s)
    (hs : subscripted slice false (.ref l) (.int (-1) u) = operate [.ref l, .int (-1) u] (getItem (.ref l) (.int (-1) u)) := by with_unfolding_all rfl) :
    wpAny (model prog w) A (subscriptTail value slice (.ref l) (.int (-1) u)) Q E s := by
  refine tail_any hl.typeIs slot_list_getitem.lookup (wpAny_getItem_list_neg hl (by decide) (by simp; omega) (by decide) ?_ h) hs
  have : ((-1 : Int) + (((vs ++ [v]).toArray.size : Nat) : Int)).toNat = vs.length := by simp; omega
  rw [this]; simp
theorem list4 {M : Model} {A : Around} {E : Value → Shared → Prop} {s : Shared} {env : Env} {a b c d : Str} {ka kb kc kd : Nat} {pa pb pc pd pos : Pos} {Q : Value → Shared → Prop}
    (h : Q (.ref s.heap.objs.size) { s with heap := s.heap.push { cls := .type "list", data := .seq #[.str a s.toks, .str b (s.toks + 1), .str c (s.toks + 1 + 1), .str d (s.toks + 1 + 1 + 1)] }, toks := s.toks + 1 + 1 + 1 + 1 }) :
    wpAny M A (eval (.List [.Constant (.str a) ka pa, .Constant (.str b) kb pb, .Constant (.str c) kc pc, .Constant (.str d) kd pd] pos) env) Q E s :=
  List_ (spliced_more (Calls.Constant_str (spliced_more (Calls.Constant_str (spliced_more (Calls.Constant_str (spliced_more (Calls.Constant_str (spliced_none (wpAny_newList h (by simp [sizeLine]))))))))))) 
def cr : Str := Str.ofString "\r"
def lfS : Str := Str.ofString "\n"
def crlfS : Str := Str.ofString "\r\n"
def nel : Str := Str.ofString "\x85"
/-- a text, a joint, the row -/
def fEl (r : Str) (tv v y : Value) : Prop := ∀ x tx j tj, tv = .str x tx → v = .str j tj → ∃ u, y = .str (x ++ j ++ r) u
def gEl (r : Str) (tv : Value) (zs : List Value) : Prop := ∀ x tx, tv = .str x tx → ∃ u1 u2 u3 u4, zs = [.str (x ++ cr ++ r) u1, .str (x ++ lfS ++ r) u2, .str (x ++ crlfS ++ r) u3, .str (x ++ nel ++ r) u4]
theorem g_of_f {r : Str} {tv : Value} {t1 t2 t3 t4 : Tok} {zs : List Value} (h : Paired (fEl r tv) [.str cr t1, .str lfS t2, .str crlfS t3, .str nel t4] zs) : gEl r tv zs := by
  intro x tx e
  cases h with | cons a1 h => cases h with | cons a2 h => cases h with | cons a3 h => cases h with | cons a4 h => cases h with | nil =>
  obtain ⟨u1, rfl⟩ := a1 x tx _ _ e rfl
  obtain ⟨u2, rfl⟩ := a2 x tx _ _ e rfl
  obtain ⟨u3, rfl⟩ := a3 x tx _ _ e rfl
  obtain ⟨u4, rfl⟩ := a4 x tx _ _ e rfl
  exact ⟨_, _, _, _, rfl⟩
theorem mem_strValues {ps : List (Str × Tok)} {v : Value} (h : v ∈ strValues ps) : ∃ x t, v = .str x t ∧ (x, t) ∈ ps := by
  simp only [strValues, List.mem_map] at h
  obtain ⟨p, hp, rfl⟩ := h
  exact ⟨p.1, p.2, rfl, hp⟩
def joints (r x : Str) : List Str := [x ++ cr ++ r, x ++ lfS ++ r, x ++ crlfS ++ r, x ++ nel ++ r]
theorem longer_of {r : Str} : ∀ {ps : List (Str × Tok)} {zss : List (List Value)}, Paired (gEl r) (strValues ps) zss → ∃ qs, zss.flatten = strValues qs ∧ qs.map (·.1) = (ps.map (·.1)).flatMap (joints r)
  | [], zss, h => by cases h; exact ⟨[], rfl, rfl⟩
  | p :: ps, zss, h => by
    cases h with
    | cons a h =>
      obtain ⟨qs, e1, e2⟩ := longer_of h
      obtain ⟨u1, u2, u3, u4, rfl⟩ := a p.1 p.2 rfl
      refine ⟨(p.1 ++ cr ++ r, u1) :: (p.1 ++ lfS ++ r, u2) :: (p.1 ++ crlfS ++ r, u3) :: (p.1 ++ nel ++ r, u4) :: qs, ?_, ?_⟩
      · simp [e1, strValues]
      · simp [e2, joints]
theorem joints_len {r x y : Str} (h : y ∈ joints r x) : y.length ≤ x.length + 2 + r.length := by
  have l1 : cr.length = 1 := by decide +kernel
  have l2 : lfS.length = 1 := by decide +kernel
  have l3 : crlfS.length = 2 := by decide +kernel
  have l4 : nel.length = 1 := by decide +kernel
  simp only [joints, List.mem_cons, List.not_mem_nil, or_false] at h
  rcases h with rfl | rfl | rfl | rfl <;> simp only [Str.length_append, l1, l2, l3, l4] <;> omega
theorem longer_len {r : Str} {ps qs : List (Str × Tok)} (e : qs.map (·.1) = (ps.map (·.1)).flatMap (joints r)) : qs.length = 4 * ps.length := by
  have := congrArg List.length e
  rw [List.length_map] at this
  rw [this]
  clear this e
  induction ps with
  | nil => rfl
  | cons p ps ih => simp only [List.map_cons, List.flatMap_cons, List.length_append, ih, List.length_cons]; simp [joints]; omega
theorem longer_short {r : Str} {ps qs : List (Str × Tok)} {n : Nat} (e : qs.map (·.1) = (ps.map (·.1)).flatMap (joints r)) (h : ∀ p ∈ ps, p.1.length ≤ n) : ∀ q ∈ qs, q.1.length ≤ n + 2 + r.length := by
  intro q hq
  have : q.1 ∈ qs.map (·.1) := List.mem_map_of_mem hq
  rw [e, List.mem_flatMap] at this
  obtain ⟨x, hx, hy⟩ := this
  obtain ⟨p, hp, rfl⟩ := List.mem_map.mp hx
  have := joints_len hy
  have := h p hp
  omega
theorem paired_eq : ∀ {l ys : List Value}, Paired (fun v y => y = v) l ys → ys = l
  | [], _, h => by cases h; rfl
  | v :: l, _, h => by
    cases h with
    | cons a h => rw [a, paired_eq h]
theorem filter_str (q : Str → Bool) : ∀ qs : List (Str × Tok), (strValues qs).filter (fun v => match v with | .str x _ => q x | _ => false) = strValues (qs.filter fun p => q p.1)
  | [] => rfl
  | p :: qs => by
    have ih := filter_str q qs
    show (Value.str p.1 p.2 :: strValues qs).filter _ = _
    rw [List.filter_cons, List.filter_cons]
    dsimp only
    split
    · rw [ih]; rfl
    · exact ih
local macro_rules | `(tactic| walk_at "callWith") => `(tactic| ((with_reducible show wpAny _ _ (callWith _ (Value.builtin _) (_ :: _) _ []) _ _ _); (with_reducible refine' callWith_method1 ?_ ?he ?hp); (case he => rfl); (case hp => rfl); (try dsimp only [List.cons_append, List.nil_append])))
/-- the kept texts -/
def growL (ts : List Str) (r due' : Str) : List Str := (ts.flatMap (joints r)).filter fun t => quoteS t == due'
def dueS (due r : Str) : Str := due ++ (Str.ofString "\r\n" ++ dottedS r)
abbrev tupOf (items : Array Value) : Obj := { cls := Value.type "tuple", data := Data.seq items }
def GrownAt (s : Shared) (vs : List Value) (ts : List Str) (r due : Str) (v : Value) (h : Heap) : Prop :=
  ∃ a b c td qs n n', v = .ref a ∧ s.heap.get? a = none ∧ s.heap.get? b = none ∧ s.heap.get? c = none ∧ h.get? a = some (listOf (vs ++ [Value.ref b]).toArray n) ∧ h.get? b = some (tupOf #[.ref c, .str (dueS due r) td]) ∧ h.get? c = some (listOf (strValues qs).toArray n') ∧ qs.map (·.1) = growL ts r (dueS due r)
set_option maxHeartbeats 8000000 in
theorem c_grown {w : World} {p : Program} {loose : List Str} {mean : ExcName → Option Value} {mg mb : Str → Option Value} {dp un : Nat} {fr : Option (List Env)} {gd : Option (List Code)} {s : Shared} {l l1 l2 : Addr} {vs : List Value} {ps : List (Str × Tok)} {r due : Str} {t t2 : Tok} (G : Gd w p loose mean mg mb s.heap) (hdp : dp < 800)
    (hl : s.heap.IsList l (vs ++ [Value.ref l1]).toArray) (hl1 : IsTup s.heap l1 #[.ref l2, .str due t2]) (hl2 : s.heap.IsList l2 (strValues ps).toArray)
    (hr : r.length ≤ 4) (hdue : due.length ≤ 100) (hvs : vs.length ≤ 100) (hps : ps.length ≤ 100) (hpl : ∀ p ∈ ps, p.1.length ≤ 100) :
    codeAny (model Challenge.rw_nb0035_01.row.prog w) ({ handled := none, depth := dp, frames := fr, guards := gd, units := un } : Around) (.call (.ref 83) ⟨[.ref l, .str r t], []⟩) (Got s (GrownAt s (vs ++ [Value.ref l1]) (ps.map (·.1)) r due)) s := by
  have X := G.X
  have T := G.T
  (have kfil : (fun (_ : Challenge.rw_nb0035_01.row.prog = Challenge.rw_nb0035_01.row.prog) => Mine.hd.heap_39) = (fun _ => Mine.hd.heap_39) := by k_fill; rfl); clear kfil
  refine' code_inC (binds := [(Str.ofString "grown", .ref l), (Str.ofString "row", .str r t)]) G ?k6 ?k7 ?k8 ?k9 ?kB ?kD ?_ ?c2 ?c3 ?c4; (case k6 => k_is); (case k7 => k_is); (case k8 => (try dsimp only); simp only [recursionLimit]; omega); (case k9 => exact BindsTo.of_eq rfl); (case kB => exact rfl); (case kD => decide +kernel); (case c2 => exact rfl); (case c3 => exact rfl); (case c4 => exact rfl); intro h₁ tk₁ cells' F' N' Y'; k_cells Y'; (try simp only [List.cons_append, List.nil_append, List.append_nil] at N')
  show wpAny _ _ _ _ _ _
  k_fold
  k_steps
  refine item_last (hl.at fun o e => F'.keep _ o e) (by omega) ?_
  refine unpackN_ F' N' (hl1.keeps F'.keep) (by rfl) (by rfl) (by rfl) ?_
  intro h₂ F2 N2
  clear F' N'
  dsimp only [assignEach, List.map]
  k_steps
  refine got_call (c_dotted (G.keeps (Fr.keep (by assumption))) (by show dp + 1 < 900; omega) (by omega)) ?_
  rintro v h₃ tk₃ hk₃ ⟨td, rfl⟩
  rename Fr _ _ _ _ => F3
  rename News _ _ _ _ => N3
  have F4 := fr_stays F3 hk₃
  have N4 := news_stays N3 hk₃
  clear F3 N3
  have hdl := dottedS_len r
  k_steps
  rename Fr _ _ _ _ => F5
  rename News _ _ _ _ => N5
  rename (Obj.data _ = Data.cell (bindC _ _ _ (Str.ofString "row"))) => dR
  have hLT : l2 ≠ s.heap.objs.size := by obtain ⟨o, e, _⟩ := hl2; exact Nat.ne_of_lt (Heap.lt_size e)
  refine assign_nested (cl := [(Str.ofString "row", s.heap.objs.size + 1)]) (T := l2) (ts := strValues ps) (f := fEl r) (g := gEl r) (Pj := fun v => ∃ j tj, v = .str j tj ∧ j.length ≤ 2) rfl ?sw ?clos ?hcell rfl ?hnm (by rfl) (by rfl) ?hxy (by rfl) (by rfl) rfl (fun _ => rfl) (fun _ _ => rfl) F5 N5 ?hit (hl2.at fun o e => F5.keep _ o e) hLT (by simp [strValues]; omega) ?hiter ?helt ?hQ
  case sw => rfl
  case clos => rfl
  case hcell => decide
  case hnm => decide
  case hxy => decide
  case hit => exact wpAny_Name (wpAny_loadName_local rfl rfl F5.ns rfl ⟨rfl, rfl⟩) (by decide)
  case hiter =>
    intro C s₂
    refine list4 ?_
    refine ⟨_, [.str cr s₂.toks, .str lfS (s₂.toks + 1), .str crlfS (s₂.toks + 1 + 1), .str nel (s₂.toks + 1 + 1 + 1)], rfl, ?_, ⟨_, Heap.get?_push_size _ rfl, rfl, _, rfl⟩, by simp, ⟨_, _, rfl, fun b o e => Heap.get?_push_of_some _ e⟩, ?_, fun tv _ zs hz => g_of_f hz⟩
    · cases e : s₂.heap.get? s₂.heap.objs.size with
      | none => rfl
      | some o => exact absurd (Heap.lt_size e) (Nat.lt_irrefl _)
    · intro v hv
      simp only [List.mem_cons, List.not_mem_nil, or_false] at hv
      rcases hv with rfl | rfl | rfl | rfl <;> exact ⟨_, _, rfl, by decide +kernel⟩
  case helt =>
    intro C tv u s₂ m₂ htv hu hn hm1 hm2 hk
    obtain ⟨j, tj, rfl, hj⟩ := hu
    obtain ⟨x, tx, rfl, hx⟩ := mem_strValues htv
    have hxl := hpl _ hx
    have hR : s₂.heap.IsCell (s.heap.objs.size + 1) (some (.str r t)) := ⟨_, hk _ _ (N5 _ (List.mem_cons_of_mem _ (List.mem_cons_self ..))).1, dR⟩
    have szl : sizeLine = 16777216 := rfl
    refine wpAny_BinOp (wpAny_BinOp (wpAny_Name (wpAny_loadName_local rfl rfl hn hm2 (wpAny_Name (wpAny_loadName_local rfl rfl hn hm1 ?_) (by decide))) (by decide)))
    refine PyProof.Rows.add_str ?_ (by rw [szl]; dsimp only at hxl; omega)
    intro t1 k1
    refine wpAny_Name (wpAny_loadName_cell rfl rfl rfl hR ?_) (by decide)
    refine PyProof.Rows.add_str ?_ (by rw [szl, Str.length_append]; dsimp only at hxl; omega)
    intro t2 k2
    refine ⟨fun x' tx' j' tj' e1 e2 => ?_, ⟨_, _, rfl, fun _ _ e => e⟩⟩
    cases e1; cases e2
    exact ⟨_, rfl⟩
  case hQ =>
    intro D nD h₆ tk₆ zss F6 N6 hP hDn hSt
    obtain ⟨qs, e1, e2⟩ := longer_of hP
    rw [e1] at N6
    clear F5 N5
    dsimp only
    iterate 8 (first | (k_unfold; (try dsimp only)) | (k_end; kc_close) | walk1 | (dsimp only; walk1) | (leave1; walk_say "STEP leave1"; (try dsimp only)))
    rename (Obj.data _ = Data.cell (some (Value.str (due ++ _) _))) => dD
    generalize hdue' : due ++ (Str.ofString "\r\n" ++ dottedS r) = due' at dD
    refine wpAny_ListComp_free (fun v => match v with | .str x _ => quoteS x == due' | _ => false) (fun v y => y = v) (by rfl) (by decide) (by rfl) (by decide) (by rfl) ?_ (fun _ => rfl)
    refine wpAny_Name (wpAny_loadName_local rfl rfl F6.ns rfl ?_) (by decide)
    have hDm := (N6 _ (List.mem_cons_self ..)).1
    have hDl : h₆.IsList D (strValues qs).toArray := ⟨_, hDm, rfl, _, rfl⟩
    refine wpAny_pyIter_list hDl ?_
    refine ⟨h₆.objs.size, [h₆.objs.size, D], [h₆.objs.size], (strValues qs).toArray.size, (fun i v => (strValues qs).toArray[i]? = some v), _, rfl, Walks.list rfl h₆.objs.size D (Nat.ne_of_lt (Heap.lt_size hDm)) _, ?sz, ⟨isListIter_push, hDl.push _⟩, ?fp, ⟨?tests, ?elt⟩, ?fin⟩
    case tests =>
      intro C i v s₃ m₃ E' hC hP hn hm hold htk
      obtain ⟨x, tx, rfl, hx⟩ := mem_strValues (by simpa using Array.mem_of_getElem? hP)
      have hk : ∀ b o, h₆.get? b = some o → s₃.heap.get? b = some o := fun b o e => hold b o (by simpa using Nat.ne_of_lt (Heap.lt_size e)) (Heap.get?_push_of_some _ e)
      clear hold
      have hxl := longer_short e2 hpl _ hx
      dsimp only at hxl
      k_steps
      refine got_call (c_quote (G.keeps fun b o e => hk b o (F6.keep b o e)) (by show dp + 1 < 900; omega) (by omega)) ?_
      rintro v h₇ tk₇ hk₇ ⟨tq, rfl⟩
      have hDue : h₇.IsCell (s.heap.objs.size + 1 + 1) (some (.str due' _)) := ⟨_, hk₇ _ _ (hk _ _ (N6 _ (List.mem_cons_of_mem _ (List.mem_cons_self ..))).1), dD⟩
      refine wpAny_Name (wpAny_loadName_cell rfl rfl rfl hDue ?_) (by decide)
      k_steps
      exact ⟨_, _, rfl, hk₇⟩
    case sz => simp [strValues, sizeLine, longer_len e2]; omega
    case fp =>
      intro b hb
      simp only [Heap.size_push]
      simp at hb
      have hlt : @LT.lt Nat instLTNat D h₆.objs.size := Heap.lt_size hDm
      rcases hb with rfl | rfl
      · exact Nat.lt_succ_self _
      · exact Nat.lt_succ_of_lt hlt
    case elt =>
      intro C i v s₃ m₃ E' hC hP hpv hn hm hold htk
      exact wpAny_Name (wpAny_loadName_local rfl rfl hn hm ⟨rfl, _, _, rfl, fun _ _ e => e⟩) (by decide)
    case fin =>
      intro D' h₈ tk₈ ys vs' hDn' hDl' hDp' hlen' hP' hF' hk'
      rw [list_of_places hlen' hP'] at hF'
      have hys := paired_eq hF'
      rw [List.toList_toArray, filter_str (fun x => quoteS x == due')] at hys
      have hk8 : ∀ b o, h₆.get? b = some o → h₈.get? b = some o := fun b o e => hk' b o (by simpa using Nat.ne_of_lt (Heap.lt_size e)) (Heap.get?_push_of_some _ e)
      have F8 := fr_stays F6 hk8
      obtain ⟨nD', hDo'⟩ := hDp'
      have hDn6 : h₆.get? D' = none := by
        cases q : h₆.get? D' with
        | none => rfl
        | some o => have := Heap.get?_push_of_some { cls := .type "list_iterator", data := .fields #[.ref D, .int 0 0] } q; rw [hDn'] at this; cases this
      have hDL : D' ≠ s.heap.objs.size := by
        intro z
        obtain ⟨o, _, _, e, _⟩ := F6.ns
        have e' : h₆.get? s.heap.objs.size = some o := e
        rw [← z, hDn6] at e'; cases e'
      have hDs : s.heap.get? D' = none := by
        cases q : s.heap.get? D' with
        | none => rfl
        | some o => have := F6.keep _ _ q; rw [hDn6] at this; cases this
      have N8 := news_more (news_stays N6 hk8) hDo' hDL hDs
      clear F6 N6
      dsimp only
      k_steps
      refine got_of (L := s.heap.objs.size) (by assumption) ?_
      rename News _ _ _ _ => N9
      have M1 := N9 _ (List.mem_cons_self ..)
      have M3 := N9 _ (List.mem_cons_of_mem _ (List.mem_cons_of_mem _ (List.mem_cons_self ..)))
      have M4 := N9 _ (List.mem_cons_of_mem _ (List.mem_cons_of_mem _ (List.mem_cons_of_mem _ (List.mem_cons_self ..))))
      have hd2 : dueS due r = due' := hdue'
      unfold GrownAt
      rw [hd2]
      refine ⟨_, _, _, _, qs.filter (fun p => quoteS p.1 == due'), _, nD', rfl, M1.2.2, M3.2.2, M4.2.2, M1.1, M3.1, ?_, ?_⟩
      · have e4 : (strValues (qs.filter (fun p => quoteS p.1 == due'))).toArray = ys := by rw [← hys]
        rw [e4]; exact M4.1
      · rw [growL, ← e2, List.filter_map]; rfl
end Mine
end
section
open PySem PySem.W PySem.Calls PyProof.Rows
set_option Elab.async false
set_option maxRecDepth 100000
namespace Mine
/-- the texts and what is due, one row more -/
def stepS (S : List Str × Str) (r : Str) : List Str × Str := (growL S.1 r (dueS S.2 r), dueS S.2 r)
def stS (ρ : Nat → Str) : Nat → List Str × Str
  | 0 => ([ρ 0], dottedS (ρ 0))
  | k + 1 => stepS (stS ρ k) (ρ (k + 1))
def TupAt (g h : Heap) (S : List Str × Str) (v : Value) : Prop := ∃ b c td qs n, v = .ref b ∧ g.get? b = none ∧ g.get? c = none ∧ h.get? b = some (tupOf #[.ref c, .str S.2 td]) ∧ h.get? c = some (listOf (strValues qs).toArray n) ∧ qs.map (·.1) = S.1
def TupsAt (g h : Heap) : List (List Str × Str) → List Value → Prop
  | [], vs => vs = []
  | S :: Ts, vs => ∃ v ws, vs = v :: ws ∧ TupAt g h S v ∧ TupsAt g h Ts ws
theorem seq_ne_ns {h : Heap} {a L : Addr} {items : Array Value} {m : Str → Option Value} (x : h.IsList a items) (n : h.Ns L m) : a ≠ L := by
  rintro rfl
  obtain ⟨o, e, _, k, d⟩ := x
  obtain ⟨o', es, ep, e', d', _⟩ := n
  rw [e] at e'; cases e'; rw [d] at d'; cases d'
theorem tup_ne_ns {h : Heap} {a L : Addr} {items : Array Value} {m : Str → Option Value} (x : IsTup h a items) (n : h.Ns L m) : a ≠ L := by
  rintro rfl
  obtain ⟨o, e, _, k, d⟩ := x
  obtain ⟨o', es, ep, e', d', _⟩ := n
  rw [e] at e'; cases e'; rw [d] at d'; cases d'
theorem seq_ne_it {h : Heap} {a I l : Addr} {j : Nat} {items : Array Value} (x : h.IsList a items) (n : h.IsListIter I l j) : a ≠ I := by
  rintro rfl
  obtain ⟨o, e, _, k, d⟩ := x
  obtain ⟨o', e', _, d'⟩ := n
  rw [e] at e'; cases e'; rw [d] at d'; cases d'
theorem tup_ne_it {h : Heap} {a I l : Addr} {j : Nat} {items : Array Value} (x : IsTup h a items) (n : h.IsListIter I l j) : a ≠ I := by
  rintro rfl
  obtain ⟨o, e, _, k, d⟩ := x
  obtain ⟨o', e', _, d'⟩ := n
  rw [e] at e'; cases e'; rw [d] at d'; cases d'
theorem IsTup.at' {h h' : Heap} {a : Addr} {items : Array Value} (x : IsTup h a items) (k : ∀ o, h.get? a = some o → h'.get? a = some o) : IsTup h' a items := let ⟨o, e, r⟩ := x; ⟨o, k o e, r⟩
theorem TupAt.at {g h h' : Heap} {S : List Str × Str} {v : Value} (x : TupAt g h S v) (k : ∀ a o, (∃ its, h.IsList a its) ∨ (∃ its, IsTup h a its) → h.get? a = some o → h'.get? a = some o) : TupAt g h' S v := by
  obtain ⟨b, c, td, qs, n, e, x1, x2, t, l, q⟩ := x
  exact ⟨b, c, td, qs, n, e, x1, x2, k b _ (.inr ⟨_, _, t, rfl, _, rfl⟩) t, k c _ (.inl ⟨_, _, l, rfl, _, rfl⟩) l, q⟩
theorem TupsAt.at {g h h' : Heap} (k : ∀ a o, (∃ its, h.IsList a its) ∨ (∃ its, IsTup h a its) → h.get? a = some o → h'.get? a = some o) : ∀ {Ts : List (List Str × Str)} {vs : List Value}, TupsAt g h Ts vs → TupsAt g h' Ts vs
  | [], _, x => x
  | _ :: _, _, ⟨v, ws, e, a, b⟩ => ⟨v, ws, e, a.at k, TupsAt.at k b⟩
theorem TupsAt.snoc {g h : Heap} {S : List Str × Str} {v : Value} (y : TupAt g h S v) : ∀ {Ts : List (List Str × Str)} {vs : List Value}, TupsAt g h Ts vs → TupsAt g h (Ts ++ [S]) (vs ++ [v])
  | [], _, x => by cases x; exact ⟨v, [], rfl, y, rfl⟩
  | _ :: _, _, ⟨u, ws, e, a, b⟩ => by subst e; exact ⟨u, ws ++ [v], rfl, a, TupsAt.snoc y b⟩
theorem TupsAt.last {g h : Heap} {S : List Str × Str} : ∀ {Ts : List (List Str × Str)} {vs : List Value}, TupsAt g h (Ts ++ [S]) vs → ∃ ws v, vs = ws ++ [v] ∧ TupAt g h S v
  | [], _, ⟨v, ws, e, a, b⟩ => by cases b; exact ⟨[], v, e, a⟩
  | _ :: _, _, ⟨u, ws, e, a, b⟩ => by
    obtain ⟨ws', v, e', c⟩ := TupsAt.last b
    exact ⟨u :: ws', v, by rw [e, e']; rfl, c⟩
theorem TupsAt.length {g h : Heap} : ∀ {Ts : List (List Str × Str)} {vs : List Value}, TupsAt g h Ts vs → vs.length = Ts.length
  | [], _, x => by cases x; rfl
  | _ :: _, _, ⟨_, ws, e, _, b⟩ => by rw [e, List.length_cons, List.length_cons, TupsAt.length b]
/-- the list that reduce grows -/
def GrowP (g : Heap) (ρ : Nat → Str) (i : Nat) (v : Value) (h : Heap) : Prop := ∃ a vs n, v = .ref a ∧ g.get? a = none ∧ h.get? a = some (listOf (List.toArray vs) n) ∧ TupsAt g h ((List.range (i + 1)).map (stS ρ)) vs
theorem GrowP.at {ρ : Nat → Str} {i : Nat} {v : Value} {g h h' : Heap} (x : GrowP g ρ i v h) (k : ∀ a o, (∃ its, h.IsList a its) ∨ (∃ its, IsTup h a its) → h.get? a = some o → h'.get? a = some o) : GrowP g ρ i v h' := by
  obtain ⟨a, vs, n, e, x1, l, t⟩ := x
  exact ⟨a, vs, n, e, x1, k a _ (.inl ⟨_, _, l, rfl, _, rfl⟩) l, t.at k⟩
theorem dueS_len (due r : Str) : (dueS due r).length ≤ due.length + r.length + 3 := by
  have := dottedS_len r
  have e : (Str.ofString "\r\n").length = 2 := by decide +kernel
  rw [dueS, Str.length_append, Str.length_append, e]; omega
theorem stS_bounds {ρ : Nat → Str} (hρ : ∀ k, (ρ k).length ≤ 2) : ∀ k, (stS ρ k).1.length ≤ 4 ^ k ∧ (∀ t ∈ (stS ρ k).1, t.length ≤ 2 + 4 * k) ∧ (stS ρ k).2.length ≤ 3 + 5 * k
  | 0 => by
    have := hρ 0
    have h2 := dottedS_len (ρ 0)
    refine ⟨by simp [stS], fun t ht => ?_, by simp only [stS]; omega⟩
    simp [stS] at ht; subst ht; omega
  | k + 1 => by
    obtain ⟨h1, h2, h3⟩ := stS_bounds hρ k
    have hr := hρ (k + 1)
    refine ⟨?_, fun t ht => ?_, ?_⟩
    · show (growL (stS ρ k).1 _ _).length ≤ _
      refine Nat.le_trans (List.length_filter_le _ _) ?_
      have : ∀ l : List Str, (l.flatMap (joints (ρ (k + 1)))).length = 4 * l.length := by
        intro l
        induction l with
        | nil => rfl
        | cons a l ih => rw [List.flatMap_cons, List.length_append, ih, List.length_cons]; simp [joints]; omega
      rw [this, Nat.pow_succ]; omega
    · have ht' : t ∈ growL (stS ρ k).1 (ρ (k + 1)) (dueS (stS ρ k).2 (ρ (k + 1))) := ht
      rw [growL, List.mem_filter, List.mem_flatMap] at ht'
      obtain ⟨⟨x, hx, hy⟩, _⟩ := ht'
      have := joints_len hy
      have := h2 x hx
      omega
    · show (dueS (stS ρ k).2 (ρ (k + 1))).length ≤ _
      have := dueS_len (stS ρ k).2 (ρ (k + 1))
      omega

set_option maxHeartbeats 8000000 in
theorem c_reduceG {w : World} {p : Program} {loose : List Str} {mean : ExcName → Option Value} {mg mb : Str → Option Value} {dp un : Nat} {fr : Option (List Env)} {gd : Option (List Code)} {s : Shared} {g₀ : Heap} {l g : Addr} {items : List Value} {ρ : Nat → Str} (G : Gd w p loose mean mg mb s.heap) (hg₀ : g₀.StaysIn s.heap) (hdp : dp < 700) (hl : s.heap.IsList l items.toArray) (hlen : items.length ≤ 3)
    (hρ : ∀ k, (ρ k).length ≤ 2) (hit : ∀ (i : Nat) (x : Value), items[i]? = some x → ∃ t, x = Value.str (ρ (i + 1)) t) (h0 : GrowP g₀ ρ 0 (.ref g) s.heap) :
    codeAny (model Challenge.rw_nb0035_01.row.prog w) ({ handled := none, depth := dp, frames := fr, guards := gd, units := un } : Around) (.call (.ref 64) ⟨[.ref 83, .ref l, .ref g], []⟩) (Got s (GrowP g₀ ρ items.length)) s := by
  (have kfil : (fun (_ : Challenge.rw_nb0035_01.row.prog = Challenge.rw_nb0035_01.row.prog) => Mine.hd.heap_39) = (fun _ => Mine.hd.heap_39) := by k_fill; rfl); clear kfil
  have h56 := G.X 56 _ (by k_is)
  have h83 := G.X 83 _ (by k_is)
  refine c_reduce G (by omega) hl (by omega) ?hIs ?hkp ?hm1 ?hm2 ?hst ?hm0
  case hIs =>
    intro A E Q s' hk hq
    obtain ⟨a, vs, n, e, _, hla, _⟩ := h0
    cases e
    refine wpAny_is_ref_other (fun z => ?_) (hk _ _ hla) (hk _ _ h56) (by simp) hq
    rw [z, h56] at hla
    have := congrArg Obj.cls (Option.some.inj hla)
    simp at this
  case hkp =>
    intro h hk
    exact ⟨.frame, .inl rfl, (Looks.ld (part := none) (hk _ _ h83)).andThen .now⟩
  case hm1 =>
    intro i v h h' L m hn hP st
    refine hP.at fun a o ha e => st a o ?_ e
    rcases ha with ⟨its, ha⟩ | ⟨its, ha⟩
    · simpa using seq_ne_ns ha hn
    · simpa using tup_ne_ns ha hn
  case hm2 =>
    intro i v h h' it l' j hn hP st
    refine hP.at fun a o ha e => st a o ?_ e
    rcases ha with ⟨its, ha⟩ | ⟨its, ha⟩
    · simpa using seq_ne_it ha hn
    · simpa using tup_ne_it ha hn
  case hm0 => intro h hk; exact h0.at fun a o _ e => hk a o e
  case hst =>
    rintro A i v x s' hA1 hA2 hx ⟨a, vs, n, rfl, _, hla, hT⟩ hk
    obtain ⟨t, rfl⟩ := hit i x hx
    have hi3 : i < 3 := by have := (List.getElem?_eq_some_iff.mp hx).1; omega
    rw [List.range_succ, List.map_append] at hT
    obtain ⟨ws, v', rfl, b, c, td, qs, n', rfl, _, _, hb, hc, hq⟩ := hT.last
    have hlenT := hT.length
    simp at hlenT
    have hbd := stS_bounds hρ i
    have h4 : 4 ^ i ≤ 64 := Nat.le_trans (Nat.pow_le_pow_right (by decide) (show i ≤ 3 by omega)) (by decide)
    have hql : qs.length = (stS ρ i).1.length := by rw [← hq, List.length_map]
    have hr := hρ (i + 1)
    obtain ⟨hd', dp', fr', gd', un'⟩ := A
    cases hA1
    have hA2' : dp' = dp + 1 := hA2
    refine codeAny_mono (c_grown (G.keeps hk) (by omega) ⟨_, hla, rfl, _, rfl⟩ ⟨_, hb, rfl, _, rfl⟩ ⟨_, hc, rfl, _, rfl⟩ (by omega) (by omega) (by omega) (by omega) ?_) fun r s'' hg => ?_
    · intro p hp
      have : p.1 ∈ (stS ρ i).1 := by rw [← hq]; exact List.mem_map_of_mem hp
      have := hbd.2.1 _ this
      omega
    · obtain ⟨u, rfl, hx', a', b', c', td', qs', n1, n2, rfl, han, hbn, hcn, hal, hbt, hcl, hqs⟩ := hg
      have nn : ∀ d, s'.heap.get? d = none → g₀.get? d = none := fun d e => by
        cases q : g₀.get? d with
        | none => rfl
        | some o => rw [hk _ _ (hg₀ _ _ q)] at e; cases e
      refine ⟨_, rfl, hx', a', ws ++ [.ref b] ++ [.ref b'], n1, rfl, nn _ han, hal, ?_⟩
      rw [List.range_succ, List.map_append, List.range_succ, List.map_append]
      refine TupsAt.snoc ⟨b', c', td', qs', n2, rfl, nn _ hbn, nn _ hcn, hbt, hcl, ?_⟩ (hT.at fun a o _ e => hx'.stays a o e)
      rw [hqs, hq]; rfl
end Mine
end
section
open PySem PySem.W PySem.Calls PyProof.Rows
set_option Elab.async false
set_option maxRecDepth 100000
namespace Mine
/-- the table of _law_count's code: empty, or it holds the lambda's code -/
def qualL : Str := Str.ofString "_law_count" ++ Str.ofString ".<locals>." ++ Str.ofString "<lambda>"
def TabIs (h : Heap) (ps : Array Value) : Prop := ps = #[] ∨ ∃ c' : Addr, ps = #[rawInt (47 : Nat), rawInt (18 : Nat), Value.ref c'] ∧ h.CodeRec (.ref c') qualL
def Tab (h : Heap) : Prop := ∃ ps, h.get? 92 = some (tabObj ps) ∧ TabIs h ps
section
variable {M : Model} {A : Around} {E : Value → Shared → Prop} {s : Shared} {h₀ : Heap} {L a : Addr} {m mg mb : Str → Option Value} {cn : Str} {cs : Scope} {news : List (Addr × Obj)}
  {p : Program} {loose : List Str} {mean : ExcName → Option Value} {params : Arguments} {body : PySem.Expr} {scope : Scope} {ps : Array Value} {ec el : Nat}
theorem lam_made {Q : Value → Shared → Prop} (F : Fr h₀ L s.heap m) (N : News h₀ L s.heap ((92, tabObj ps) :: news)) (T : Top p loose mean mg mb h₀) (C : CodeHd h₀ 96 92) (hne : ∀ q ∈ news, q.1 ≠ 92) (hT : TabIs h₀ ps)
    (hq : (envX cn cs L a (.ref 96) []).qual ++ ("<lambda>" : Str) = qualL)
    (hdef : defaultsOf params (envX cn cs L a (.ref 96) []) = ([], [])) (hcl : closureFor scope (envX cn cs L a (.ref 96) []) = pure [])
    (h : ∀ f c' ctv pm h' tk, Fr h₀ L h' m → News h₀ L h' ((f, kla_obj (Str.ofString "<lambda>") qualL params body scope [] pm c' ctv) :: (92, tabObj #[rawInt (47 : Nat), rawInt (18 : Nat), Value.ref c']) :: news) →
      h'.CodeRec (.ref c') qualL → Q (.ref f) { s with heap := h', toks := tk }) :
    wpAny M A (eval (.Lambda params body scope ⟨47, 18, el, ec⟩) (envX cn cs L a (.ref 96) [])) Q E s := by
  refine kla_eval hdef ?_
  rw [hq]
  rcases hT with rfl | ⟨c', rfl, hrec⟩
  · refine kla_nest (ps := #[]) F N T C rfl (.head hne) (by trivial) rfl hcl ?_
    intro f c' oc vs t ctv h' tk F' N' hd hv _ _
    refine h f c' ctv ((mg "__name__").getD .none) h' tk F' (fun q hq => N' q ?_) ⟨c', oc, vs, t, rfl, (N' _ (List.mem_cons_of_mem _ (List.mem_cons_self ..))).1, hd, hv⟩
    rcases List.mem_cons.mp hq with rfl | hq
    · exact List.mem_cons_self ..
    · exact List.mem_cons_of_mem _ (List.mem_cons_of_mem _ hq)
  · refine kla_hit (c' := c') F N T C rfl (List.mem_cons_self ..) (by trivial) rfl hcl ?_
    intro f ctv h' tk F' N' _
    exact h f c' ctv _ h' tk F' N' (hrec.keeps F'.keep)
end
def GotT (s : Shared) (R : Value → Heap → Prop) (r : Result) (s' : Shared) : Prop := ∃ v h' tk', r = .ok (.ret v) ∧ s' = { s with heap := h', toks := tk' } ∧ Stay [92] s.heap h' ∧ Tab h' ∧ R v h'
theorem code_inT {w : World} {p : Program} {loose : List Str} {mean : ExcName → Option Value} {mg mb : Str → Option Value} {A : Around} {s : Shared} {R : Result → Shared → Prop} {name qual : Str} {params : Arguments} {body : List Stmt} {scope : Scope} {dV kV doc pm cdv ct oc : Value} {ps : Array Value} {an od : Option Addr} {osl : Array (Option Value)} {f : Addr} {args : Args} {binds : List (Str × Value)}
    (G : Gd w p loose mean mg mb (s.heap.hide 92)) (hT : s.heap.get? 92 = some (tabObj ps))
    (ho : (Mine.hd.heap_39 w.params).lookup f = some ⟨oc, od, .func (fnOf name qual params body scope dV kV doc pm an cdv ct), osl⟩) (hcd : codeIn (Mine.hd.heap_39 w.params) cdv qual = true) (hroom : A.depth < recursionLimit)
    (hbind : BindsTo s (fnOf name qual params body scope dV kV doc pm an cdv ct) args binds) (hloc : ∀ y ∈ binds, scope.names.lookup y.1 = some .local)
    (h : ∀ h₁, Fr (s.heap.hide 92) s.heap.objs.size h₁ (fun y => binds.reverse.lookup y) → News (s.heap.hide 92) s.heap.objs.size h₁ [(92, tabObj ps)] →
      wpAny (model Challenge.rw_nb0035_01.row.prog w) (A.deeper (envOf qual scope s.heap.objs.size f cdv)) (execs body (envOf qual scope s.heap.objs.size f cdv))
        (fun fl s' => R (.ok (.ret (match fl with | .ret v => v | _ => .none))) s')
        (fun _ _ => False)
        { s with heap := h₁, toks := s.toks + binds.length })
    (hco : scope.isCoroutine = false) (hgen : scope.isGenerator = false) (hk : scope.kind = .function)
    (hcell : ∀ x ∈ scope.names, x.2 ≠ .cell) : codeAny (model Challenge.rw_nb0035_01.row.prog w) A (.call (.ref f) args) R s := by
  have up : ∀ b o, (s.heap.hide 92).get? b = some o → s.heap.get? b = some o := fun b o e => Heap.of_hide e
  have G' : Gd w p loose mean mg mb s.heap := G.keeps up
  refine codeAny_call_def (fd := fnOf name qual params body scope dV kV doc pm an cdv ct) (body := body) (binds := binds) hroom (G'.X _ _ ho) rfl G'.T.nolimit (codeRec_of G'.X hcd) rfl hbind hcell hloc (fun h₁ hns hk₁ => ?_) hco hgen hk
  refine wpAny_mono (h h₁ ⟨hns, fun b o e => hk₁ b o (up b o e), Nat.le_of_eq (Heap.hide_size _ _)⟩ (fun q hq => ?_)) (fun _ _ x => x) (fun _ _ x => x.elim)
  cases List.mem_singleton.mp hq
  exact ⟨hk₁ _ _ hT, Nat.ne_of_lt (Heap.lt_size hT), Heap.hide_self _ _⟩
/-- the sizes of the runs -/
def szStep (z : List Int × Int) (r : Str) : List Int × Int := if r.cps.toList = [] then (z.1, z.2 + 1) else (z.1 ++ [z.2], 1)
def midL {α : Type} (l : List α) : List α := (l.drop 1).dropLast
theorem slice_mid (ps : List (Str × Tok)) (h : ps.length ≤ 4) : slicePick (strValues ps).toArray (some 1) (some (-1)) none = (strValues (midL ps)).toArray := by
  match ps, h with
  | [], _ => rfl
  | [_], _ => rfl
  | [_, _], _ => rfl
  | [a, b, c], _ =>
    have e : sliceRange (sliceBounds (some 1) (some (-1)) none 3).1 (sliceBounds (some 1) (some (-1)) none 3).2.1 (sliceBounds (some 1) (some (-1)) none 3).2.2 = [1] := by decide +kernel
    show ((sliceRange (sliceBounds (some 1) (some (-1)) none 3).1 (sliceBounds (some 1) (some (-1)) none 3).2.1 (sliceBounds (some 1) (some (-1)) none 3).2.2).filterMap ((strValues [a, b, c]).toArray[·]?)).toArray = _
    rw [e]; rfl
  | [a, b, c, d], _ =>
    have e : sliceRange (sliceBounds (some 1) (some (-1)) none 4).1 (sliceBounds (some 1) (some (-1)) none 4).2.1 (sliceBounds (some 1) (some (-1)) none 4).2.2 = [1, 2] := by decide +kernel
    show ((sliceRange (sliceBounds (some 1) (some (-1)) none 4).1 (sliceBounds (some 1) (some (-1)) none 4).2.1 (sliceBounds (some 1) (some (-1)) none 4).2.2).filterMap ((strValues [a, b, c, d]).toArray[·]?)).toArray = _
    rw [e]; rfl
  | _ :: _ :: _ :: _ :: _ :: _, h => simp at h
def inB (n : Nat) (l : List Int) : Prop := ∀ k ∈ l, 0 ≤ k ∧ k ≤ (n : Int)
theorem szB : ∀ (l : List Str) (z : List Int × Int) (n : Nat), 1 ≤ n → inB n (z.1 ++ [z.2]) → inB (n + l.length) ((l.foldl szStep z).1 ++ [(l.foldl szStep z).2])
  | [], z, n, _, h => h
  | r :: l, z, n, hn, h => by
    have h1 : inB (n + 1) ((szStep z r).1 ++ [(szStep z r).2]) := by
      have hz := h z.2 (by simp)
      unfold szStep
      split
      · intro k hk
        rcases List.mem_append.mp hk with hk | hk
        · have := h k (by simp [hk]); omega
        · simp at hk; subst hk; omega
      · intro k hk
        rcases List.mem_append.mp hk with hk | hk
        · have := h k hk; omega
        · simp at hk; subst hk; omega
    have := szB l (szStep z r) (n + 1) (by omega) h1
    rw [List.foldl_cons, List.length_cons, show n + (l.length + 1) = n + 1 + l.length by omega]
    exact this
def prodL (l : List Int) : Int := l.foldl (fun t z => t * tabV z) 1
theorem tabV_b (z : Int) : 1 ≤ tabV z ∧ tabV z ≤ 21 := by unfold tabV; (repeat' split) <;> decide
theorem prod_step (l : List Int) (z : Int) : prodL (l ++ [z]) = prodL l * tabV z := by simp [prodL]
theorem prod_b : ∀ (n : Nat) (l : List Int), l.length ≤ n → n ≤ 5 → 1 ≤ prodL l ∧ prodL l ≤ 21 ^ n := by
  intro n
  induction n with
  | zero => intro l h _; cases l with
    | nil => decide
    | cons => simp at h
  | succ n ih =>
    intro l h hn
    rcases List.eq_nil_or_concat l with rfl | ⟨l', z, rfl⟩
    · have : (21 : Int) ^ (n + 1) = ((21 ^ (n + 1) : Nat) : Int) := by simp
      rw [this]
      have h2 : 1 ≤ 21 ^ (n + 1) := Nat.one_le_pow _ _ (by decide)
      show (1 : Int) ≤ 1 ∧ (1 : Int) ≤ _
      omega
    · have h1 := ih l' (by simp at h; omega) (by omega)
      have h2 := tabV_b z
      rw [List.concat_eq_append, prod_step, Int.pow_succ]
      constructor
      · have := Int.mul_le_mul h1.1 h2.1 (by decide) (by omega); omega
      · exact Int.mul_le_mul h1.2 h2.2 (by omega) (by omega)
theorem szLen : ∀ (l : List Str) (z : List Int × Int), (l.foldl szStep z).1.length ≤ z.1.length + l.length
  | [], z => by simp
  | r :: l, z => by
    have := szLen l (szStep z r)
    have h2 : (szStep z r).1.length ≤ z.1.length + 1 := by unfold szStep; split <;> simp
    simp only [List.foldl_cons, List.length_cons]
    omega
section
variable {prog : Program} {w : World} {A : Around} {E : Value → Shared → Prop} {s : Shared}
theorem set_last {l : Addr} {vs : List Value} {x v : Value} {n : Nat} {t : Tok} {Q : Unit → Shared → Prop} (hl : s.heap.get? l = some (listOf (vs ++ [x]).toArray n))
    (hQ : ∀ h', h'.get? l = some (listOf (vs ++ [v]).toArray n) → Heap.SameBut l s.heap h' → Q () { s with heap := h' }) :
    wpAny (model prog w) A (setItem (.ref l) (.int (-1) t) v) Q E s := by
  have hL : s.heap.IsList l (vs ++ [x]).toArray := ⟨_, hl, rfl, _, rfl⟩
  unfold setItem
  try with_reducible refine wpAny_holding ?_
  first | refine wpAny_bind (wpAny_pure ?_) | skip
  refine wpAny_bind (wpAny_sequenceKey hL.typeIs (by decide) ?_)
  refine wpAny_bind (wpAny_callSpecial?_slot (name := Str.ofString "__setitem__") hL.typeIs slot_list_setitem
    (wpAny_call_entry slot_list_setitem hL.typeIs entry_list_setitem ?_ (args_list_setitem _ _ _)))
  show wpAny _ _ (Builtin.List.listSubscript? (.int (-1) t) >>= _) _ _ s
  refine wpAny_bind (wpAny_listSubscript_int (fitsIndex_neg (by decide) (by decide)) ?_)
  have hidx := seqIndex_neg (k := -1) (n := (vs ++ [x]).toArray.size) (by decide) (by simp; omega)
  have e1 : ((-1 : Int) + (((vs ++ [x]).toArray.size : Nat) : Int)).toNat = vs.length := by simp; omega
  rw [e1] at hidx
  show wpAny _ _ ((Builtin.List.listItems (.ref l) >>= fun xs => pure ((seqIndex? (-1) xs.size).bind fun i => xs[i]?.map (i, ·))) >>= _) _ _ s
  refine wpAny_bind (wpAny_bind ?_)
  show wpAny _ _ (seqItems? (.ref l) >>= _) _ _ s
  refine wpAny_bind (wpAny_seqItems hl rfl (wpAny_pure (wpAny_pure ?_)))
  rw [hidx]
  have hx : (vs ++ [x]).toArray[vs.length]? = some x := by simp
  simp only [Option.bind_some, hx, Option.map_some]
  show wpAny _ _ (setSeqItemAt l vs.length v >>= _) _ _ s
  refine wpAny_bind (wpAny_setSeqItemAt hl rfl ?_)
  have hfin : (s.heap.update l (Obj.mapSeq (·.setIfInBounds vs.length v))).get? l = some (listOf (vs ++ [v]).toArray n) := by
    rw [Heap.get?_update_self _ hl rfl]
    simp [Obj.mapSeq]
  first
    | exact wpAny_bind (wpAny_pure (wpAny_pure ⟨.none, rfl, wpAny_pure (hQ _ hfin (Heap.SameBut.update ..))⟩))
    | exact wpAny_pure ⟨.none, rfl, wpAny_pure (hQ _ hfin (Heap.SameBut.update ..))⟩
end
theorem ints_last : ∀ {vs : List Value} {ns : List Int} {z : Int}, IntsAre vs (ns ++ [z]) → ∃ ws t, vs = ws ++ [.int z t] ∧ IntsAre ws ns
  | _, [], _, .cons n t h => by cases h; exact ⟨[], t, rfl, .nil⟩
  | _, _ :: ns, z, .cons n t h => by
    obtain ⟨ws, t', e, h'⟩ := ints_last h
    exact ⟨.int n t :: ws, t', by rw [e]; rfl, .cons n t h'⟩
theorem ints_one (z : Int) (t : Tok) : IntsAre [.int z t] [z] := .cons z t .nil
theorem ints_get : ∀ {vs : List Value} {ns : List Int} {i : Nat} {x : Value}, IntsAre vs ns → vs[i]? = some x → ∃ z t, x = .int z t ∧ ns[i]? = some z
  | _, _, _, _, .nil, h => by simp at h
  | _, _, 0, _, .cons n t _, h => by simp at h; exact ⟨n, t, h.symm, rfl⟩
  | _, _, i + 1, _, .cons n t r, h => ints_get (i := i) r (by simpa using h)
def countS (rs : List Str) : Int :=
  prodL (((midL rs).foldl szStep ([], if (rs.length : Int) - 1 < 1 then (rs.length : Int) - 1 else 1)).1 ++ [((midL rs).foldl szStep ([], if (rs.length : Int) - 1 < 1 then (rs.length : Int) - 1 else 1)).2])
theorem mid_map {α β : Type} (f : α → β) (l : List α) : (midL l).map f = midL (l.map f) := by simp [midL, List.map_drop, List.map_dropLast]
theorem tab_getD {z : Int} (h0 : 0 ≤ z) (h1 : z ≤ 3) : ([1, 3, 8, 21] : List Int).getD z.toNat 0 = tabV z := by
  have : z = 0 ∨ z = 1 ∨ z = 2 ∨ z = 3 := by omega
  rcases this with rfl | rfl | rfl | rfl <;> decide
/-- what the loop over the middle rows keeps -/
def CntJ (base : Heap) (a : Addr) (tb : Array Value) (z0 : Int) (mids : List Str) (i : Nat) (m : Str → Option Value) (h : Heap) : Prop :=
  m (Str.ofString "sizes") = some (.ref a) ∧ base.StaysIn h ∧ h.get? 92 = some (tabObj tb) ∧ ∃ vals n, h.get? a = some (listOf (List.toArray vals) n) ∧
    IntsAre vals (((mids.take i).foldl szStep ([], z0)).1 ++ [((mids.take i).foldl szStep ([], z0)).2])
set_option maxHeartbeats 8000000 in
theorem c_count {w : World} {p : Program} {loose : List Str} {mean : ExcName → Option Value} {mg mb : Str → Option Value} {dp un : Nat} {fr : Option (List Env)} {gd : Option (List Code)} {s : Shared} {l : Addr} {ps : List (Str × Tok)} {tb : Array Value} (G : Gd w p loose mean mg mb (s.heap.hide 92)) (hT : s.heap.get? 92 = some (tabObj tb)) (hTab : TabIs (s.heap.hide 92) tb) (hdp : dp < 700) (hl : s.heap.IsList l (strValues ps).toArray) (hlen : ps.length ≤ 4) (hpos : 1 ≤ ps.length) :
    codeAny (model Challenge.rw_nb0035_01.row.prog w) ({ handled := none, depth := dp, frames := fr, guards := gd, units := un } : Around) (.call (.ref 97) ⟨[.ref l], []⟩) (GotT s fun v _ => ∃ t, v = .int (countS (ps.map (·.1))) t) s := by
  have X := G.X
  have T := G.T
  (have kfil : (fun (_ : Challenge.rw_nb0035_01.row.prog = Challenge.rw_nb0035_01.row.prog) => Mine.hd.heap_39) = (fun _ => Mine.hd.heap_39) := by k_fill; rfl); clear kfil
  refine' code_inT (binds := [(Str.ofString "rows", .ref l)]) G hT ?k6 ?k7 ?k8 ?k9 ?kB ?_ ?c2 ?c3 ?c4 ?c5; (case k6 => k_is); (case k7 => k_is); (case k8 => (try dsimp only); simp only [recursionLimit]; omega); (case k9 => exact BindsTo.of_eq rfl); (case c5 => decide); (case kB => exact locs rfl); (case c2 => exact rfl); (case c3 => exact rfl); (case c4 => exact rfl)
  intro h₁ F N
  k_fold
  k_steps
  have hlh : (s.heap.hide 92).IsList l (strValues ps).toArray := by
    obtain ⟨o, e, hc, r⟩ := hl
    exact ⟨o, (Heap.hide_ne _ (fun z => by rw [z, hT] at e; cases e; cases hc)).trans e, hc, r⟩
  have hl1 : h₁.IsList l (strValues ps).toArray := hlh.at fun o e => F.keep _ o e
  refine len_list hl1 (by simp [strValues]; omega) ?_
  have hsz : (((strValues ps).toArray.size : Nat) : Int) = (ps.length : Int) := by simp [strValues]
  rw [hsz]
  iterate 9 (first | (k_unfold; (try dsimp only)) | (k_end; kc_close) | walk1 | (dsimp only; walk1) | (leave1; walk_say "STEP leave1"; (try dsimp only)))
  refine wpAny_For ?_ (fun _ => rfl)
  k_steps
  rename News _ _ _ _ => N2
  rename Fr _ _ _ _ => F2
  dsimp only at N2 F2 ⊢
  rename_i t0 g3 t1 a g2 l1 g1 Fx Nx g
  have hasl : a ≠ g1.objs.size + 1 := Nat.ne_of_lt (Nat.lt_succ_of_lt (Heap.lt_size (Nx _ (List.mem_cons_self ..)).1))
  generalize g1.objs.size + 1 = sl at N2 hasl ⊢
  clear Fx Nx
  rw [slice_mid ps hlen] at N2
  have Msl := N2 _ (List.mem_cons_self ..)
  have Ma := N2 _ (List.mem_cons_of_mem _ (List.mem_cons_self ..))
  have Mt := N2 _ (List.mem_cons_of_mem _ (List.mem_cons_of_mem _ (List.mem_cons_self ..)))
  have hsl : g.IsList sl (strValues (midL ps)).toArray := ⟨_, Msl.1, rfl, _, rfl⟩
  refine wpAny_pyIter_list hsl ?_
  dsimp only
  have hIit : (g.push { cls := .type "list_iterator", data := .fields #[.ref sl, .int 0 0] }).IsListIter g.objs.size sl 0 := isListIter_push
  have hpu : ∀ b o, g.get? b = some o → (g.push { cls := .type "list_iterator", data := .fields #[.ref sl, .int 0 0] }).get? b = some o := fun b o e => Heap.get?_push_of_some _ e
  have neI : ∀ b o, g.get? b = some o → b ≠ g.objs.size := fun b o e => Nat.ne_of_lt (Heap.lt_size e)
  generalize hgI : g.push { cls := .type "list_iterator", data := .fields #[.ref sl, .int 0 0] } = gI at hIit hpu ⊢
  generalize hz0 : (if (ps.length : Int) - 1 < 1 then (ps.length : Int) - 1 else 1) = z0 at Ma N2
  have hLg : ∃ o, g.get? s.heap.objs.size = some o := by obtain ⟨o, _, _, e, _⟩ := F2.ns; exact ⟨o, e⟩
  refine for_list2 (L := s.heap.objs.size) (l := sl) (items := strValues (midL ps)) rfl rfl rfl rfl (by obtain ⟨o, e⟩ := hLg; exact (neI _ o e).symm) Msl.2.1 (neI _ _ Msl.1)
    (CntJ (s.heap.hide 92) a tb z0 ((midL ps).map (·.1))) ?hJ ?step hIit (hsl.at fun o e => hpu _ o e) (F2.ns.keeps hpu) ?h0 ?hR
  case hJ =>
    rintro i m h h' hn hit ⟨j1, j2, j3, vals, n, j4, j5⟩ st
    have ne : ∀ b o, h.get? b = some o → o.cls ≠ .type "list_iterator" → b ∉ [g.objs.size] := fun b o e hd z => by
      simp at z
      obtain ⟨o', e', c', _⟩ := hit
      rw [z, e'] at e; cases e; exact hd c'
    refine ⟨j1, fun b o e => st b o ?_ (j2 b o e), st _ _ (ne _ _ j3 (by simp)) j3, vals, n, st _ _ (ne _ _ j4 (by simp)) j4, j5⟩
    simp
    intro z
    have := F2.keep _ _ e
    exact neI _ _ this z
  case h0 => exact ⟨rfl, fun b o e => hpu b o (F2.keep b o e), hpu _ _ Mt.1, [.int z0 _], 0, hpu _ _ Ma.1, by simpa using IntsAre.cons z0 _ .nil⟩
  case step =>
    rintro i v m₁ g₀ g₁ tk₁ hv ⟨j1, j2, j3, vals, n, j4, j5⟩ hn0 hn1 hsb hit1 hl1'
    obtain ⟨oI, eI, cI, dI⟩ := hit1
    obtain ⟨oS, eS, cS, nS, dS⟩ := hl1'
    have hLo : ∀ b o, g₀.get? b = some o → b ≠ s.heap.objs.size → g₁.get? b = some o := fun b o e n => hsb.extBut b o n e
    have haL : a ≠ s.heap.objs.size := Ma.2.1
    have h92L : (92 : Addr) ≠ s.heap.objs.size := Mt.2.1
    have e92 := hLo _ _ j3 h92L
    have ea := hLo _ _ j4 haL
    obtain ⟨x, tx, rfl, hx⟩ := mem_strValues (List.mem_of_getElem? hv)
    have hmap : (fun y => if y = Str.ofString "row" then some (Value.str x tx) else m₁ y) = (fun y => if y = Str.ofString "row" then some (Value.str x tx) else if y = Str.ofString "sizes" then some (Value.ref a) else m₁ y) := by
      funext y
      by_cases e2 : y = Str.ofString "sizes"
      · rw [e2, if_neg (by decide +kernel), if_neg (by decide +kernel), if_pos rfl, j1]
      · rw [if_neg e2]
    rw [hmap] at hn1
    have hba : ∀ b o, (s.heap.hide 92).get? b = some o → g₁.get? b = some o := fun b o e => hLo b o (j2 b o e) (Nat.ne_of_lt (Nat.lt_of_lt_of_le (Heap.lt_size e) (Nat.le_of_eq (Heap.hide_size _ _))))
    have Fg : Fr (s.heap.hide 92) s.heap.objs.size g₁ _ := ⟨hn1, hba, Nat.le_of_eq (Heap.hide_size _ _)⟩
    have hsl0 : (s.heap.hide 92).get? sl = none := Msl.2.2
    have hI0 : (s.heap.hide 92).get? g.objs.size = none := by
      cases q : (s.heap.hide 92).get? g.objs.size with
      | none => rfl
      | some o => exact absurd rfl (neI _ _ (F2.keep _ _ q))
    have hIL : g.objs.size ≠ s.heap.objs.size := by obtain ⟨o, e⟩ := hLg; exact (neI _ o e).symm
    have Ng : News (s.heap.hide 92) s.heap.objs.size g₁ [(a, listOf (List.toArray vals) n), (92, tabObj tb), (g.objs.size, oI), (sl, oS)] :=
      news_more (news_more (news_more (news_more News.nil eS Msl.2.1 hsl0) eI hIL hI0) e92 h92L Mt.2.2) ea haL Ma.2.2
    have hne1 : a ≠ 92 := fun z => by rw [z, j3] at j4; cases j4
    have hne2 : a ≠ g.objs.size := neI _ _ Ma.1
    clear N2 F2 hn1
    show wpAny _ _ _ _ _ _
    k_fold
    have hxi : ((midL ps).map (·.1))[i]? = some x := by
      simp only [strValues, List.getElem?_map] at hv ⊢
      cases hq : (midL ps)[i]? with
      | none => rw [hq] at hv; cases hv
      | some q => rw [hq] at hv; cases hv; rfl
    have htake : ((midL ps).map (·.1)).take (i + 1) = ((midL ps).map (·.1)).take i ++ [x] := by rw [List.take_succ, hxi]; rfl
    generalize hz : (((midL ps).map (·.1)).take i).foldl szStep ([], z0) = z at j5
    have fin : ∀ h₂ tk' vals' n', Heap.SameBut a g₁ h₂ → h₂.get? a = some (listOf (List.toArray vals') n') → IntsAre vals' ((szStep z x).1 ++ [(szStep z x).2]) →
        ∃ h₂' tk₂' m₂', ({ s with heap := h₂, toks := tk' } : Shared) = { s with heap := h₂', toks := tk₂' } ∧ h₂'.Ns s.heap.objs.size m₂' ∧ h₂'.IsListIter g.objs.size sl (i + 1) ∧ h₂'.IsList sl (strValues (midL ps)).toArray ∧ CntJ (s.heap.hide 92) a tb z0 ((midL ps).map (·.1)) (i + 1) m₂' h₂' := by
      intro h₂ tk' vals' n' hs2 ha2 hi2
      refine ⟨h₂, _, _, rfl, Fg.ns.sameBut hs2 (Ne.symm haL), ⟨oI, hs2.extBut _ _ (Ne.symm hne2) eI, cI, dI⟩, ⟨oS, hs2.extBut _ _ (Ne.symm hasl) eS, cS, nS, dS⟩, rfl, fun b o e => hs2.extBut _ _ (fun z => ?_) (hba b o e), hs2.extBut _ _ (Ne.symm hne1) e92, vals', n', ha2, ?_⟩
      · have := Ma.2.2; rw [← z, e] at this; cases this
      · rw [htake, List.foldl_append, hz]; exact hi2
    obtain ⟨ws, tz, hvals, hws⟩ := ints_last j5
    have e0 : (Str.ofString "").cps.toList = [] := by decide +kernel
    k_steps
    · rename_i hq
      have hq' : x.cps.toList = [] := by rw [eq_of_beq hq]; exact e0
      rw [hvals] at ea
      have hLa : g₁.IsList a (ws ++ [Value.int z.2 tz]).toArray := ⟨_, ea, rfl, _, rfl⟩
      refine wpAny_getItem_list_neg hLa (by decide) (by simp; omega) (by decide) (x := .int z.2 tz) (by
        have : ((-1 : Int) + (((ws ++ [Value.int z.2 tz]).toArray.size : Nat) : Int)).toNat = ws.length := by simp; omega
        rw [this]; simp) ?_
      k_steps
      refine set_last ea fun h₂ h2a h2s => ?_
      have Fg' : Fr (s.heap.hide 92) s.heap.objs.size h₂ _ := ⟨Fg.ns.sameBut h2s (Ne.symm haL), fun b o e => h2s.extBut _ _ (fun z => by have := Ma.2.2; rw [← z, e] at this; cases this) (hba b o e), Fg.above⟩
      clear Fg Ng
      k_steps
      refine ⟨rfl, fin _ _ _ _ h2s h2a ?_⟩
      rw [szStep, if_pos hq']
      exact hws.append (ints_one _ _)
    · rename_i hq
      have hq' : ¬ x.cps.toList = [] := fun z => by
        have : x = Str.ofString "" := str_eq (by rw [z, e0])
        rw [this] at hq; simp at hq
      have hsz2 : (List.toArray vals).size ≤ sizeLine := by
        have h1 : vals.length = (z.1 ++ [z.2]).length := j5.length
        have h3 := szLen (((midL ps).map (·.1)).take i) ([], z0)
        rw [hz] at h3
        have h4 : (((midL ps).map (·.1)).take i).length ≤ 4 := by
          rw [List.length_take, List.length_map, midL, List.length_dropLast, List.length_drop]; omega
        have h5 : sizeLine = 16777216 := rfl
        rw [List.size_toArray, h1, List.length_append, List.length_singleton, h5]
        have h6 : ([] : List Int).length = 0 := rfl
        dsimp only at h3
        omega
      refine wpAny_list_append_plain (hsz := hsz2) ⟨n, ea⟩ fun h₂ h2a h2s => ?_
      have Fg' : Fr (s.heap.hide 92) s.heap.objs.size h₂ _ := ⟨Fg.ns.sameBut h2s (Ne.symm haL), fun b o e => h2s.extBut _ _ (fun z => by have := Ma.2.2; rw [← z, e] at this; cases this) (hba b o e), Fg.above⟩
      obtain ⟨n₂, h2a⟩ := h2a
      clear Fg Ng
      k_steps
      rw [List.push_toArray] at h2a
      refine ⟨rfl, fin _ _ _ n₂ h2s h2a ?_⟩
      rw [szStep, if_neg hq']
      exact j5.append (ints_one _ _)
  case hR =>
    rintro h₄ tk₄ m₄ hn₄ ⟨j1, j2, j3, vals, n, j4, j5⟩
    have hmap : m₄ = (fun y => if y = Str.ofString "sizes" then some (Value.ref a) else m₄ y) := by
      funext y
      by_cases e2 : y = Str.ofString "sizes"
      · rw [e2, if_pos rfl, j1]
      · rw [if_neg e2]
    rw [hmap] at hn₄
    have Fg : Fr (s.heap.hide 92) s.heap.objs.size h₄ _ := ⟨hn₄, j2, Nat.le_of_eq (Heap.hide_size _ _)⟩
    have Ng : News (s.heap.hide 92) s.heap.objs.size h₄ [(a, listOf (List.toArray vals) n), (92, tabObj tb)] :=
      news_more (news_more News.nil j3 Mt.2.1 Mt.2.2) j4 Ma.2.1 Ma.2.2
    clear N2 F2 hn₄
    dsimp only
    k_steps
    have h96 := X 96 _ (by k_is)
    have hCH : CodeHd (s.heap.hide 92) 96 92 := ⟨_, _, _, _, _, _, _, _, _, h96, rfl, rfl, rfl, rfl, rfl, rfl, rfl, rfl, by decide⟩
    have hne1 : a ≠ 92 := fun z => by rw [z, j3] at j4; cases j4
    have Ng' : News (s.heap.hide 92) s.heap.objs.size h₄ [(92, tabObj tb), (a, listOf (List.toArray vals) n)] := news_more (news_more News.nil j4 Ma.2.1 Ma.2.2) j3 Mt.2.1 Mt.2.2
    refine lam_made Fg Ng' T hCH (fun q hq => by cases List.mem_singleton.mp hq; exact hne1) hTab rfl rfl rfl ?_
    intro f c' ctv pm h₅ tk₅ F5 N5 hrec
    clear Ng Ng' Fg
    k_steps
    generalize hz : (((midL ps).map (·.1)).take (strValues (midL ps)).length).foldl szStep ([], z0) = z at j5
    have hBz : inB 3 (z.1 ++ [z.2]) := by
      have h0 : inB 1 (([] : List Int) ++ [z0]) := by intro k hk; simp at hk; subst hk; rw [← hz0]; split <;> omega
      have := szB (((midL ps).map (·.1)).take (strValues (midL ps)).length) ([], z0) 1 (by omega) h0
      rw [hz] at this
      intro k hk
      have h2 := this k hk
      have h4 : (((midL ps).map (·.1)).take (strValues (midL ps)).length).length ≤ 2 := by
        rw [List.length_take, List.length_map, midL, List.length_dropLast, List.length_drop]; omega
      omega
    have hvl : vals.length = (z.1 ++ [z.2]).length := j5.length
    have hzl : (z.1 ++ [z.2]).length ≤ 5 := by
      have h3 := szLen (((midL ps).map (·.1)).take (strValues (midL ps)).length) ([], z0)
      rw [hz] at h3
      have h4 : (((midL ps).map (·.1)).take (strValues (midL ps)).length).length ≤ 2 := by
        rw [List.length_take, List.length_map, midL, List.length_dropLast, List.length_drop]; omega
      have h6 : ([] : List Int).length = 0 := rfl
      dsimp only at h3
      simp only [List.length_append, List.length_singleton]
      omega
    have G5 : Gd w p loose mean mg mb h₅ := G.keeps F5.keep
    have h56 := G5.X 56 _ (by k_is)
    have hf5 := (N5 _ (List.mem_cons_self ..)).1
    have ha5 := (N5 _ (List.mem_cons_of_mem _ (List.mem_cons_of_mem _ (List.mem_cons_self ..)))).1
    have h925 := (N5 _ (List.mem_cons_of_mem _ (List.mem_cons_self ..))).1
    generalize hns : z.1 ++ [z.2] = ns at j5 hBz hvl hzl
    refine got_call (c_reduce (P := fun i v _ => ∃ t, v = .int (prodL (ns.take i)) t) (items := vals) G5 (by show dp + 1 < 800; omega) ⟨_, ha5, rfl, _, rfl⟩ (by omega) ?hIs ?hkp (fun _ _ _ _ _ _ _ h _ => h) (fun _ _ _ _ _ _ _ _ h _ => h) ?hst (fun _ _ => ⟨_, rfl⟩)) ?fin
    case hIs =>
      intro A E Q s' hk hq
      exact wpAny_is_other rfl (by simp) hq
    case hkp =>
      intro h hk
      exact ⟨.frame, .inl rfl, (Looks.ld (part := none) (hk _ _ hf5)).andThen .now⟩
    case hst =>
      rintro A i v x s' hA1 hA2 hx ⟨t, rfl⟩ hk
      obtain ⟨zi, ti, rfl, hzi⟩ := ints_get j5 hx
      obtain ⟨hd', dp', fr', gd', un'⟩ := A
      cases hA1
      have hA2' : dp' = dp + 1 + 1 := hA2
      have Gs : Gd w p loose mean mg mb s'.heap := G5.keeps hk
      have hzb := hBz zi (List.mem_of_getElem? hzi)
      have hz1 := hzb.1
      have hz2 : zi ≤ 3 := hzb.2
      have hpb := prod_b 5 (ns.take i) (by rw [List.length_take]; omega) (by omega)
      have hp1 := hpb.1
      have hp2 : prodL (ns.take i) ≤ 4084101 := hpb.2
      have hnext : prodL (ns.take (i + 1)) = prodL (ns.take i) * tabV zi := by rw [List.take_succ, hzi]; exact prod_step _ _
      generalize prodL (ns.take i) = tot at hp1 hp2 hnext
      rw [hnext]
      have ho' := hk _ _ hf5
      have hrec' := hrec.keeps hk
      have Xs := Gs.X
      have Ts := Gs.T
      clear hpb hzb F5 N5 X T
      refine code_lam (binds := [(Str.ofString "total", .int tot t), (Str.ofString "size", .int zi ti)]) Gs.T.nolimit ho' hrec' (by show dp' < recursionLimit; simp only [recursionLimit]; omega) rfl (locs rfl) ?_ rfl rfl rfl (by decide)
      intro g₁ Fl Nl
      k_fold
      k_steps
      rw [tab_getD hz1 hz2]
      exact got_of (L := s'.heap.objs.size) (by assumption) ⟨_, rfl⟩
    case fin =>
      rintro v h₆ tk₆ hk₆ ⟨t, rfl⟩
      refine ⟨_, h₆, tk₆, rfl, rfl, fun b o hb e => hk₆ b o (F5.keep b o ((Heap.hide_ne _ (by simpa using hb)).trans e)), ⟨_, hk₆ _ _ h925, .inr ⟨c', rfl, hrec.keeps hk₆⟩⟩, t, ?_⟩
      have e1 : ns.take vals.length = ns := List.take_of_length_le (by omega)
      rw [e1, countS, ← mid_map, ← hns, ← hz, List.length_map, hz0, List.take_of_length_le (by simp [strValues])]
end Mine
end
section
open PySem PyProof.Rows
set_option maxRecDepth 100000
namespace Mine
/-- an element's value, as it stands in the end -/
def GF (G : Heap → Heap → Value → Value → Prop) (hf : Heap) (v y : Value) : Prop := ∃ hb ha sk, G hb ha v y ∧ Stay sk ha hf ∧ ∀ b ∈ sk, ∃ o, hb.get? b = some o
section
variable {prog : Program} {w : World} {A : Around} {E : Value → Shared → Prop} {elt iter : Expr} {x : Str} {px : Pos} {scope : Scope} {pos : Pos} {cenv : Env}
/-- as GF, over the block's own addresses -/
def GS (G : Heap → Heap → Value → Value → Prop) (sk : List Addr) (hf : Heap) (v y : Value) : Prop := ∃ hb ha, G hb ha v y ∧ Stay sk ha hf ∧ ∀ b ∈ sk, ∃ o, hb.get? b = some o
theorem paired_mono {α β : Type} {F F' : α → β → Prop} (h : ∀ a b, F a b → F' a b) : ∀ {l : List α} {m : List β}, Paired F l m → Paired F' l m
  | _, _, .nil => .nil
  | _, _, .cons a b => .cons (h _ _ a) (paired_mono h b)
theorem paired_snoc {α β : Type} {F : α → β → Prop} {a : α} {b : β} (h : F a b) : ∀ {l : List α} {m : List β}, Paired F l m → Paired F (l ++ [a]) (m ++ [b])
  | _, _, .nil => .cons h .nil
  | _, _, .cons a b => .cons a (paired_snoc h b)
theorem map_loop {R : Result → Shared → Prop} {I T D C : Addr} {ts : List Value} {G : Heap → Heap → Value → Value → Prop} (hh : A.handled = none) (hC : cenv.locals = C) (hx : cenv.kindOf x = some .local)
    (hp : (cenv.scope.kind == .class || (cenv.scope.kind == .module && cenv.locals != cenv.globals)) = false)
    (hIT : T ≠ I) (hDC : D ≠ C) (hDI : D ≠ I) (hDT : D ≠ T) (hCI : C ≠ I) (hCT : C ≠ T) (s₀ : Shared)
    (helt : ∀ v s₂ m₂, v ∈ ts → s₂.heap.Ns C m₂ → m₂ x = some v → Stay [C, D, I] s₀.heap s₂.heap → wpAny (model prog w) A (eval elt cenv) (fun r s₃ => G s₂.heap s₃.heap v r ∧ Keeps s₂ s₃) FF s₂) :
    ∀ (rest pre : List Value) (h : Heap) (tk : Nat) (m : Str → Option Value) (ys : List Value), ts = pre ++ rest → h.IsListIter I T pre.length → h.IsList T ts.toArray → h.PlainList D ys.toArray → h.Ns C m → Stay [C, D, I] s₀.heap h → ts.length ≤ 10000 → ys.length = pre.length →
      Paired (GS G [C, D, I] h) pre ys →
      (∀ h' tk' m' (zs : List Value), h'.Ns C m' → h'.PlainList D zs.toArray → Paired (GS G [C, D, I] h') ts zs → Stay [C, D, I] s₀.heap h' → R (.ok .next) { s₀ with heap := h', toks := tk' }) →
      codeAny (model prog w) A (.compLoop (.ListComp elt [⟨.Name x px, iter, [], 0⟩] scope pos) 0 (.ref I) (.ref D) cenv) R { s₀ with heap := h, toks := tk } := by
  intro rest
  have W := Walks.list (prog := prog) (w := w) hh I T hIT ts.toArray
  have up : ∀ {h h' : Heap}, Stay [C, D, I] h h' → ∀ a b, GS G [C, D, I] h a b → GS G [C, D, I] h' a b := fun st a b ⟨hb, ha, g, s', p⟩ => ⟨hb, ha, g, s'.trans st, p⟩
  induction rest with
  | nil =>
    intro pre h tk m ys hts hI hT hD hN hS hsz hyl hP hfin
    refine codeAny_of_tree ?_
    show wpAny _ _ ((compTurn (.ListComp elt [⟨.Name x px, iter, [], 0⟩] scope pos) 0 (.ref I) (.ref D) cenv).onRaise (fun x => do noteFrame x cenv; theTreesLotGoes x)) _ _ _
    refine wpAny_onRaise (ff_mono ?_)
    rw [compTurn_list1, Around.under_of_weight (by rfl)]
    refine wpAny_bind (wpAny_standAt (wpAny_bind ?_))
    have hl : pre.length = ts.toArray.size := by rw [hts]; simp
    refine W.done _ _ _ ⟨hl ▸ hI, hT⟩ fun h' tk' hk => ?_
    have hS' : Stay [C, D, I] h h' := fun b o hb e => hk b o (fun q => hb (by simp at q; simp [q])) e
    have e := hfin h' tk' m ys (hN.at' fun o e => hk _ o (by simp [hCI]) e) (hD.at fun o e => hk _ o (by simp [hDI]) e) (by rw [hts, List.append_nil]; exact paired_mono (up hS') hP) (hS.trans hS')
    exact wpAny_pure e
  | cons v rest ih =>
    intro pre h tk m ys hts hI hT hD hN hS hsz hyl hP hfin
    refine codeAny_of_tree ?_
    show wpAny _ _ ((compTurn (.ListComp elt [⟨.Name x px, iter, [], 0⟩] scope pos) 0 (.ref I) (.ref D) cenv).onRaise (fun x => do noteFrame x cenv; theTreesLotGoes x)) _ _ _
    refine wpAny_onRaise (ff_mono ?_)
    rw [compTurn_list1, Around.under_of_weight (by rfl)]
    refine wpAny_bind (wpAny_standAt (wpAny_bind ?_))
    have hl : pre.length < ts.toArray.size := by rw [hts]; simp
    refine W.item pre.length _ _ _ hl ⟨hI, hT⟩ fun v' h1 tk1 hv' hst1 hk1 => ?_
    have ev : v' = v := by
      have : ts.toArray[pre.length]? = some v := by rw [hts]; simp
      rw [this] at hv'; exact (Option.some.inj hv').symm
    subst ev
    refine wpAny_bind (wpAny_of_eq (a := ()) rfl ?_)
    have hN1 : h1.Ns C m := hN.at' fun o e => hk1 _ o (by simp [hCI]) e
    refine wpAny_bind (wpAny_assign_Name (wpAny_storeName_local hx (hC ▸ hN1) (fun h2 hn2 hs2 => ?_) hp))
    rw [hC] at hn2 hs2
    have hS1 : Stay [C, D, I] h h1 := fun b o hb e => hk1 b o (fun q => hb (by simp at q; simp [q])) e
    have hS2 : Stay [C, D, I] h1 h2 := .of_same hs2 (by simp)
    have hD2 : h2.PlainList D ys.toArray := hD.at fun o e => hs2.extBut _ o hDC (hk1 _ o (by simp [hDI]) e)
    have hI2 : h2.IsListIter I T (pre.length + 1) := hst1.1.at fun o e => hs2.extBut _ o (Ne.symm hCI) e
    refine wpAny_bind (wpAny_bind (wpAny_mono (helt v' _ _ (by rw [hts]; simp) hn2 (by simp) (hS.trans (hS1.trans hS2))) (fun r s3 h3 => ?_) fun _ _ z => z))
    obtain ⟨hg, h3, tk3, rfl, hk3⟩ := h3
    have hD3 : h3.PlainList D ys.toArray := hD2.at fun o e => hk3 _ o e
    refine wpAny_bind (wpAny_list_append_plain (hsz := by show ys.toArray.size ≤ sizeLine; unfold sizeLine; rw [hts] at hsz; simp at hsz ⊢; omega) hD3 fun h4 hD4 hs4 => ?_)
    refine wpAny_pure (wpAny_pure ⟨rfl, ?_⟩)
    rw [List.push_toArray] at hD4
    have hS34 : Stay [C, D, I] h3 h4 := .of_same hs4 (by simp)
    have hS4 : Stay [C, D, I] h h4 := hS1.trans (hS2.trans ((Stay.of_keep hk3).trans hS34))
    refine ih (pre ++ [v']) h4 tk3 (fun z => if z = x then some v' else m z) (ys ++ [r]) (by rw [hts]; simp) ?_ ?_ hD4 ((hn2.keeps hk3).sameBut hs4 (Ne.symm hDC)) (hS.trans hS4) hsz (by simp [hyl]) ?_ hfin
    · rw [List.length_append, List.length_singleton]
      exact (hI2.at fun o e => hk3 _ o e).at fun o e => hs4.extBut _ o (Ne.symm hDI) e
    · exact ((hst1.2.at fun o e => hs2.extBut _ o (Ne.symm hCT) e).at fun o e => hk3 _ o e).at fun o e => hs4.extBut _ o (Ne.symm hDT) e
    · refine paired_snoc ⟨_, _, hg, hS34, fun b hb => ?_⟩ (paired_mono (up hS4) hP)
      simp at hb
      rcases hb with rfl | rfl | rfl
      · obtain ⟨o, _, _, e, _⟩ := hn2; exact ⟨o, e⟩
      · obtain ⟨n, e⟩ := hD2; exact ⟨_, e⟩
      · obtain ⟨o, e, _⟩ := hI2; exact ⟨o, e⟩
theorem map_comp {env : Env} {s : Shared} {Q : Value → Shared → Prop} {T : Addr} {ts : List Value} {G : Heap → Heap → Value → Value → Prop} {cl : List (Str × Addr)} (hh : A.handled = none)
    (hclos : closureFor scope env = pure cl) (hcell : ∀ z ∈ scope.names, z.2 ≠ .cell) (hkind : scope.kind = .function)
    (hnames : ∀ z ∈ scope.names, z.2 = .local → scope.names.lookup z.1 = some .local) (hx : scope.names.lookup x = some .local)
    (hfs0 : ∀ z, foldedSetIterable iter env z = pure z)
    (hit : wpAny (model prog w) A (eval iter env) (fun xv s₁ => xv = .ref T ∧ s₁ = s) FF s) (hT : s.heap.IsList T ts.toArray) (hlen : ts.length ≤ 10000)
    (helt : ∀ C v s₂ m₂, v ∈ ts → s₂.heap.Ns C m₂ → m₂ x = some v → (∀ b o, s.heap.get? b = some o → s₂.heap.get? b = some o) → wpAny (model prog w) A (eval elt (compEnvC scope cl C env)) (fun r s₃ => G s₂.heap s₃.heap v r ∧ Keeps s₂ s₃) FF s₂)
    (hQ : ∀ D n h' tk zs, (∀ b o, s.heap.get? b = some o → h'.get? b = some o) → s.heap.get? D = none → h'.get? D = some { cls := .type "list", data := .seq (List.toArray zs) n } → Paired (GF G h') ts zs → Q (.ref D) { s with heap := h', toks := tk }) :
    wpAny (model prog w) A (eval (.ListComp elt [⟨.Name x px, iter, [], 0⟩] scope pos) env) Q E s := by
  refine ff_mono ?_
  rw [eval_ListComp]
  refine wpAny_comprehension_free (use := none) rfl hfs0 hclos hkind hnames (wpAny_mono hit (fun xv s₁ h₁ => ?_) fun _ _ e => e)
  obtain ⟨rfl, rfl⟩ := h₁
  refine wpAny_pyIter_list hT ?_
  generalize hH2 : s₁.heap.push { cls := .type "list_iterator", data := .fields #[.ref T, .int 0 0] } = H2
  have hI2 : H2.IsListIter s₁.heap.objs.size T 0 := hH2 ▸ isListIter_push
  have k2 : ∀ b o, s₁.heap.get? b = some o → H2.get? b = some o := fun b o e => hH2 ▸ Heap.get?_push_of_some _ e
  have z2 : H2.objs.size = s₁.heap.objs.size + 1 := by rw [← hH2, Heap.size_push]
  refine wpAny_newObj_type (wpAny_newFunctionEnv hcell (by intro y hy; simp at hy) (fun h₁ hns₁ hsb₁ => ?_) hkind)
  dsimp only at hns₁ hsb₁ ⊢
  generalize hH3 : H2.push { cls := .type "list", dict := none, data := .seq ([] : List Value).toArray } = H3 at hns₁ hsb₁ ⊢
  have k3 : ∀ b o, H2.get? b = some o → H3.get? b = some o := fun b o e => hH3 ▸ Heap.get?_push_of_some _ e
  have z3 : H3.objs.size = H2.objs.size + 1 := by rw [← hH3, Heap.size_push]
  have k4 : ∀ b o, H3.get? b = some o → h₁.get? b = some o := fun b o e => hsb₁.extBut b o (Nat.ne_of_lt (Heap.lt_size e)) (Heap.get?_push_of_some _ e)
  have up : ∀ b o, s₁.heap.get? b = some o → h₁.get? b = some o := fun b o e => k4 b o (k3 b o (k2 b o e))
  have hTlt : @LT.lt Nat instLTNat T s₁.heap.objs.size := by obtain ⟨o, e, _⟩ := hT; exact Heap.lt_size e
  have fresh : ∀ a, s₁.heap.objs.size ≤ a → s₁.heap.get? a = none := fun a ha => by
    cases e : s₁.heap.get? a with
    | none => rfl
    | some o' => exact absurd (Heap.lt_size e) (Nat.not_lt.mpr ha)
  have hD1 : h₁.PlainList H2.objs.size #[] := ⟨0, k4 _ _ (hH3 ▸ Heap.get?_push_size _ rfl)⟩
  have hlt : ∀ b, b < s₁.heap.objs.size → b ∉ [H3.objs.size, H2.objs.size, s₁.heap.objs.size] := fun b hb => by simp; omega
  have keepAll : ∀ {h' : Heap}, Stay [H3.objs.size, H2.objs.size, s₁.heap.objs.size] h₁ h' → ∀ b o, s₁.heap.get? b = some o → h'.get? b = some o := fun {h'} st b o e => st b o (hlt b (Heap.lt_size e)) (up b o e)
  have loop := map_loop (prog := prog) (w := w) (A := A) (R := compPost (model prog w) A FF none Q (.ref H2.objs.size) H3.objs.size) (iter := iter) (px := px) (scope := scope) (pos := pos) (elt := elt)
    (I := s₁.heap.objs.size) (T := T) (D := H2.objs.size) (C := H3.objs.size) (ts := ts) (G := G) (x := x) (cenv := compEnvC scope cl H3.objs.size env)
    hh rfl (lookup_relabel_local hx) (by simp [compEnvC, relabel, hkind]) (Nat.ne_of_lt hTlt) (Nat.ne_of_lt (by omega)) (Nat.ne_of_gt (by omega)) (Nat.ne_of_gt (by omega)) (Nat.ne_of_gt (by omega)) (Nat.ne_of_gt (by omega))
    { s₁ with heap := h₁, toks := s₁.toks + ([] : List (Str × Value)).length }
    (fun v s₂ m₂ htv hn hm2 hst => helt _ v s₂ m₂ htv hn hm2 (keepAll hst))
    ts [] h₁ (s₁.toks + ([] : List (Str × Value)).length) _ [] (by simp) (hI2.at fun o e => k4 _ o (k3 _ o e)) (hT.at fun o e => up _ o e) hD1 hns₁ (Stay.refl _ _) hlen rfl .nil
  have lp := loop fun h' tk' m' zs hn' hD' hP' hS' => ?_
  · exact codeAny_compStart_list lp (wpAny_pyIter_listiter (hI2.at fun o e => k4 _ o (k3 _ o e)) lp)
  · have K := keepAll hS'
    refine ⟨m', hn', fun h₃ hs₃ => ?_⟩
    obtain ⟨n, hD'⟩ := hD'
    have hC3 : ∀ b o, b ≠ H3.objs.size → h'.get? b = some o → h₃.get? b = some o := fun b o n e => hs₃.extBut b o n e
    refine hQ H2.objs.size n h₃ _ zs (fun b o e => hC3 b o (fun z => by subst z; rw [fresh _ (by omega)] at e; cases e) (K b o e)) (fresh _ (by omega)) (hC3 _ _ (Nat.ne_of_lt (by omega)) hD') ?_
    exact paired_mono (fun v y ⟨hb, ha, g, s', p⟩ => ⟨hb, ha, _, g, s'.trans (fun b o hb e => hC3 b o (by simp at hb; exact hb.1) e), p⟩) hP'
end
end Mine
end
section
open PySem PySem.W PySem.Calls PyProof.Rows
set_option Elab.async false
set_option maxRecDepth 100000
namespace Mine
section
variable {prog : Program} {w : World} {A : Around} {R : Result → Shared → Prop} {x : Str} {px : Pos}
/-- a turn of a loop over a range has ended -/
def TurnR (s : Shared) (L I : Addr) (n : Nat) (J : Nat → (Str → Option Value) → Heap → Prop) (i : Nat) (f : Flow) (s₂ : Shared) : Prop :=
  f = .next ∧ ∃ h₂ tk₂ m₂, s₂ = { s with heap := h₂, toks := tk₂ } ∧ h₂.Ns L m₂ ∧ IsRangeIter h₂ I ((i : Int) + 1) ((n : Int) - i - 1) 1 ∧ J (i + 1) m₂ h₂
theorem for_rng {env : Env} {s : Shared} {L I : Addr} {body : List Stmt} {n : Nat} {m : Str → Option Value} (hh : A.handled = none) (hL : env.locals = L) (hx : env.kindOf x = some .local)
    (hp : (env.scope.kind == .class || (env.scope.kind == .module && env.locals != env.globals)) = false) (hIL : I ≠ L)
    (J : Nat → (Str → Option Value) → Heap → Prop) (hJ : ∀ i m h h', h.Ns L m → IsRangeIter h I (i : Nat) ((n : Int) - i) 1 → J i m h → Stay [I] h h' → J i m h')
    (step : ∀ i t m₁ h₀ h₁ tk₁, i < n → J i m₁ h₀ → h₀.Ns L m₁ → h₁.Ns L (fun y => if y = x then some (Value.int (i : Nat) t) else m₁ y) → Heap.SameBut L h₀ h₁ → IsRangeIter h₁ I ((i : Int) + 1) ((n : Int) - i - 1) 1 →
      wpAny (model prog w) A (execs body env) (TurnR s L I n J i) FF { s with heap := h₁, toks := tk₁ })
    (hit : IsRangeIter s.heap I 0 n 1) (hn : s.heap.Ns L m) (h0 : J 0 m s.heap)
    (hR : ∀ h' tk m', h'.Ns L m' → J n m' h' → R (.ok .next) { s with heap := h', toks := tk }) :
    codeAny (model prog w) A (.forLoop (.Name x px) (.ref I) body [] env) R s := by
  refine codeAny_forLoop
    (fun k s' => ∃ h' tk m' i, s' = { s with heap := h', toks := tk } ∧ IsRangeIter h' I (i : Nat) ((n : Int) - (i : Nat)) 1 ∧ h'.Ns L m' ∧ J i m' h' ∧ i ≤ n ∧ k = n + 1 - i)
    ?_ (n + 1) ⟨s.heap, s.toks, m, 0, rfl, by simpa using hit, hn, h0, Nat.zero_le _, rfl⟩
  rintro k s' ⟨h', tk, m', i, rfl, hit', hn', hJ', hi, rfl⟩
  by_cases hlt : i < n
  · refine wpAny_pyNext_range_item hit' (by omega) fun h₁ hit₁ hs₁ => ?_
    have st1 : Stay [I] h' h₁ := .of_same hs₁ (by simp)
    have hn1 : h₁.Ns L m' := hn'.sameBut hs₁ (Ne.symm hIL)
    refine wpAny_assign_Name (wpAny_storeName_local hx (hL ▸ hn1) (fun h₂ hn₂ hs₂ => ?_) hp)
    rw [hL] at hn₂ hs₂
    refine ff_mono (wpAny_mono (step i tk m' h₁ h₂ (tk + 1 + 1) hlt (hJ i m' h' h₁ hn' hit' hJ' st1) hn1 hn₂ hs₂ (hs₂.extBut _ _ hIL hit₁)) (fun f s₃ h₃ => ?_) fun _ _ e => e)
    obtain ⟨rfl, h₃', tk₃, m₂, rfl, hn₃, hi₃, hJ₃⟩ := h₃
    refine ⟨n + 1 - (i + 1), by omega, h₃', tk₃, m₂, i + 1, rfl, ?_, hn₃, hJ₃, hlt, rfl⟩
    have e1 : ((i + 1 : Nat) : Int) = (i : Int) + 1 := by omega
    have e2 : (n : Int) - ((i : Int) + 1) = (n : Int) - i - 1 := by omega
    rw [e1, e2]; exact hi₃
  · have hsz : i = n := by omega
    refine wpAny_pyNext_range_end hh hit' (by omega) fun h₁ he₁ => wpAny_execs_nil ?_
    have st : Stay [I] h' h₁ := fun b o hb e => he₁ b o (by simpa using hb) e
    exact hR h₁ tk m' (hn'.extBut he₁ (Ne.symm hIL)) (hsz ▸ hJ i m' h' h₁ hn' hit' hJ' st)
end
end Mine
end
section
open PySem PySem.W PySem.Calls PyProof.Rows
set_option Elab.async false
set_option maxRecDepth 100000
namespace Mine
theorem news_nth {gh h : Heap} {L : Addr} {news : List (Addr × Obj)} {p : Addr × Obj} (N : News gh L h news) (i : Nat) (e : news[i]? = some p) : h.get? p.1 = some p.2 ∧ p.1 ≠ L ∧ gh.get? p.1 = none := N p (List.mem_of_getElem? e)
/-- what stands through the law's loop -/
def LawJ (gh : Heap) (ra ga : Addr) (rows : List Value) (nr gn : Nat) (ρ : Nat → Str) (gvs : List Value) (_ : Nat) (m : Str → Option Value) (h : Heap) : Prop :=
  m (Str.ofString "rows") = some (.ref ra) ∧ m (Str.ofString "grown") = some (.ref ga) ∧ gh.StaysIn h ∧ h.get? ra = some (listOf (List.toArray rows) nr) ∧ h.get? ga = some (listOf (List.toArray gvs) gn) ∧ TupsAt gh h ((List.range 4).map (stS ρ)) gvs ∧ Tab h
/-- an object that is no list, no tuple, no code -/
def Aside (h : Heap) (I : Addr) : Prop := ∃ o, h.get? I = some o ∧ (∀ its n, o.data ≠ .seq its n) ∧ (∀ ps, o ≠ tabObj ps) ∧ ∀ vs q t, o.data = .fields vs → vs[1]? ≠ some (.str q t)
theorem aside_ns {h : Heap} {L : Addr} {m : Str → Option Value} (n : h.Ns L m) : Aside h L := by
  obtain ⟨o', es, ep, e', d', _⟩ := n
  refine ⟨o', e', fun its n z => (by rw [d'] at z; cases z), fun ps z => (by rw [z] at d'; cases d'), fun vs q t z => (by rw [d'] at z; cases z)⟩
theorem aside_rng {h : Heap} {I : Addr} {x y z : Int} (n : IsRangeIter h I x y z) : Aside h I :=
  ⟨_, n, fun its n z => (by cases z), fun ps z => (by have := congrArg Obj.cls z; cases this), fun vs q t z => (by cases z; intro z; cases z)⟩
theorem Tab.aside {h h' : Heap} {I : Addr} (a : Aside h I) (k : ∀ b o, b ≠ I → h.get? b = some o → h'.get? b = some o) (x : Tab h) : Tab h' := by
  obtain ⟨o, e, h1, h2, h3⟩ := a
  obtain ⟨ps, e92, ht⟩ := x
  have hn : (92 : Addr) ≠ I := fun z => by rw [← z, e92] at e; cases e; exact h2 _ rfl
  refine ⟨ps, k _ _ hn e92, ?_⟩
  rcases ht with rfl | ⟨c', rfl, hc⟩
  · exact .inl rfl
  · refine .inr ⟨c', rfl, hc.at fun o' e' => k _ _ (fun z => ?_) e'⟩
    obtain ⟨c, o'', vs, t, z1, z2, z3, z4⟩ := hc
    cases z1
    rw [z, e] at z2; cases z2
    exact h3 vs _ t z3 z4
theorem LawJ.aside {gh h h' : Heap} {ra ga I : Addr} {rows : List Value} {nr gn i : Nat} {ρ : Nat → Str} {gvs : List Value} {m : Str → Option Value} (a : Aside h I) (hg : gh.get? I = none) (k : ∀ b o, b ≠ I → h.get? b = some o → h'.get? b = some o)
    (x : LawJ gh ra ga rows nr gn ρ gvs i m h) : LawJ gh ra ga rows nr gn ρ gvs i m h' := by
  obtain ⟨j1, j2, j3, j4, j5, j6, j7⟩ := x
  obtain ⟨o, e, h1, h2, h3⟩ := id a
  have ne : ∀ {b o' its n}, h.get? b = some o' → o'.data = .seq its n → b ≠ I := fun e' d z => by rw [z, e] at e'; cases e'; exact h1 _ _ d
  refine ⟨j1, j2, fun b o' e' => k b o' (fun z => by rw [z, hg] at e'; cases e') (j3 b o' e'), k _ _ (ne j4 rfl) j4, k _ _ (ne j5 rfl) j5, j6.at fun b o' hb e' => k b o' ?_ e', j7.aside a k⟩
  rcases hb with ⟨its, o2, e2, _, n, d⟩ | ⟨its, o2, e2, _, n, d⟩
  · exact ne e2 d
  · exact ne e2 d
theorem TupsAt.get {g h : Heap} {S : List Str × Str} : ∀ {Ts : List (List Str × Str)} {vs : List Value} {i : Nat}, TupsAt g h Ts vs → Ts[i]? = some S → ∃ v, vs[i]? = some v ∧ TupAt g h S v
  | [], _, _, _, e => by simp at e
  | _ :: _, _, 0, ⟨v, ws, e, a, _⟩, q => by subst e; cases q; exact ⟨v, rfl, a⟩
  | _ :: Ts, _, i + 1, ⟨v, ws, e, _, b⟩, q => by subst e; exact TupsAt.get (Ts := Ts) (i := i) b (by simpa using q)
/-- what keeps the table's entry -/
theorem tab_pick {gh h : Heap} {L a : Addr} {o : Obj} {tb : Array Value} {m : Str → Option Value} (F : Fr gh L h m) (N : News gh L h [(a, o)]) (ht : TabIs h tb) :
    ∃ c o, News gh L h [(c, o)] ∧ ∀ h', gh.StaysIn h' → h'.get? c = some o → TabIs h' tb := by
  rcases ht with rfl | ⟨c', rfl, hc⟩
  · exact ⟨a, o, N, fun _ _ _ => .inl rfl⟩
  · cases q : gh.get? c' with
    | some o' => 
      have := F.keep _ _ q
      refine ⟨a, o, N, fun h' k _ => .inr ⟨c', rfl, hc.at fun o2 e2 => ?_⟩⟩
      rw [this] at e2; cases e2; exact k _ _ q
    | none =>
      obtain ⟨c, o2, vs, t, z1, z2, z3, z4⟩ := hc
      cases z1
      refine ⟨c', o2, news_more News.nil z2 (fun z => ?_) q, fun h' _ e => .inr ⟨c', rfl, c', o2, vs, t, rfl, e, z3, z4⟩⟩
      obtain ⟨o', es, ep, e', d', _⟩ := F.ns
      rw [z, e'] at z2; cases z2; rw [d'] at z3; cases z3
theorem tab_hide {h : Heap} {tb : Array Value} (e : h.get? 92 = some (tabObj tb)) (ht : TabIs h tb) : TabIs (h.hide 92) tb := by
  rcases ht with rfl | ⟨c', rfl, hc⟩
  · exact .inl rfl
  · refine .inr ⟨c', rfl, hc.at fun o' e' => (Heap.hide_ne _ fun z => ?_).trans e'⟩
    obtain ⟨c, o2, vs, t, z1, z2, z3, z4⟩ := hc
    cases z1
    rw [z, e] at z2; cases z2; cases z3; cases z4
theorem gotT_call {M : Model} {A : Around} {f : Value} {vs : List Value} {s : Shared} {R : Value → Heap → Prop} {Q E : Value → Shared → Prop} (c : codeAny M A (.call f ⟨vs, []⟩) (GotT s R) s)
    (h : ∀ v h' tk', Stay [92] s.heap h' → Tab h' → R v h' → Q v { s with heap := h', toks := tk' }) : wpAny M A (call f vs) Q E s :=
  wpAny_call (codeAny_mono c fun r s' g => by obtain ⟨v, h', tk', rfl, rfl, k, t, r⟩ := g; exact h v h' tk' k t r)
/-- what _law_read gives of an item -/
def ReadG (base hb ha : Heap) (v r : Value) : Prop := base.StaysIn hb ∧ ∀ x t, v = .str x t → ∃ a ps, r = .ref a ∧ hb.get? a = none ∧ ha.IsList a (strValues ps).toArray ∧ ps.map (·.1) = readS x
/-- what _fix_eols gives of an item -/
def FixG (_ _ : Heap) (v r : Value) : Prop := ∀ x t, v = .str x t → ∃ t', r = .str (fixS x) t'
theorem reads_of {gh h : Heap} {L : Addr} {rows : List Str} : ∀ {qs : List (Str × Tok)} {zs : List Value}, Paired (fun v y => (∀ x t, v = Value.str x t → ∃ a o ps n, y = Value.ref a ∧ gh.get? a = none ∧ a ≠ L ∧ h.get? a = some o ∧ o.cls = .type "list" ∧ o.data = .seq (strValues ps).toArray n ∧ ps.map (·.1) = readS x)) (strValues qs) zs →
    (∀ q ∈ qs, readS q.1 = rows) → ∃ es : List (Addr × Obj), zs = es.map (fun p => Value.ref p.1) ∧ es.length = qs.length ∧ News gh L h es ∧ ∀ p ∈ es, p.2.cls = .type "list" ∧ ∃ ps n, p.2.data = .seq (strValues ps).toArray n ∧ ps.map (·.1) = rows
  | [], _, .nil, _ => ⟨[], rfl, rfl, News.nil, by simp⟩
  | q :: qs, _, .cons a b, hr => by
    obtain ⟨es, e1, e2, e3, e4⟩ := reads_of b (fun q' h' => hr q' (List.mem_cons_of_mem _ h'))
    obtain ⟨d, o, ps, n, rfl, x1, x2, x3, x4, x5, x6⟩ := a q.1 q.2 rfl
    refine ⟨(d, o) :: es, by rw [e1]; rfl, by simp [e2], news_more e3 x3 x2 x1, ?_⟩
    intro p hp
    rcases List.mem_cons.mp hp with rfl | hp
    · exact ⟨x4, ps, n, x5, by rw [x6]; exact hr q (List.mem_cons_self ..)⟩
    · exact e4 p hp
theorem fixes_of {y : Str} : ∀ {qs : List (Str × Tok)} {zs : List Value}, Paired (fun v r => ∀ x t, v = Value.str x t → ∃ t', r = Value.str (fixS x) t') (strValues qs) zs → (∀ q ∈ qs, fixS q.1 = y) → ∃ fs : List (Str × Tok), zs = strValues fs ∧ fs.length = qs.length ∧ ∀ f ∈ fs, f.1 = y
  | [], _, .nil, _ => ⟨[], rfl, rfl, by simp⟩
  | q :: qs, _, .cons a b, hr => by
    obtain ⟨fs, e1, e2, e3⟩ := fixes_of b (fun q' h' => hr q' (List.mem_cons_of_mem _ h'))
    obtain ⟨t', rfl⟩ := a q.1 q.2 rfl
    refine ⟨(fixS q.1, t') :: fs, by rw [e1]; rfl, by simp [e2], ?_⟩
    intro f hf
    rcases List.mem_cons.mp hf with rfl | hf
    · exact hr q (List.mem_cons_self ..)
    · exact e3 f hf
theorem reads_paired {gh h₁ h : Heap} {L : Addr} {m : Str → Option Value} (F : Fr gh L h₁ m) {ts zs : List Value} (x : Paired (GF (ReadG h₁) h) ts zs) : Paired (fun v y => (∀ x t, v = Value.str x t → ∃ a o ps n, y = Value.ref a ∧ gh.get? a = none ∧ a ≠ L ∧ h.get? a = some o ∧ o.cls = .type "list" ∧ o.data = .seq (strValues ps).toArray n ∧ ps.map (·.1) = readS x)) ts zs := by
  refine paired_mono (fun v y q => ?_) x
  obtain ⟨hb, ha, sk, ⟨kb, g⟩, st, hs⟩ := q
  intro x t e
  obtain ⟨a, ps, rfl, an, ⟨o, oe, oc, n, od⟩, pr⟩ := g x t e
  refine ⟨a, o, ps, n, rfl, ?_, ?_, st a o (fun z => ?_) oe, oc, od, pr⟩
  · cases q : gh.get? a with
    | none => rfl
    | some o => have := kb _ _ (F.keep _ _ q); rw [an] at this; cases this
  · rintro rfl
    obtain ⟨o', _, _, e', _⟩ := F.ns
    have := kb _ _ e'; rw [an] at this; cases this
  · obtain ⟨o', e'⟩ := hs a z; rw [an] at e'; cases e'
end Mine
end
section
open PySem PySem.Builtin PySem.Builtin.Str PySem.StrLaws
set_option maxRecDepth 100000
set_option linter.unusedSimpArgs false
namespace Mine
def Clean (l : List Nat) : Prop := ∀ c ∈ l, c ≠ 10 ∧ c ≠ 13
/-- the last sign is a CR; b: so is what stands ahead -/
def endsCR : Bool → List Nat → Bool
  | b, [] => b
  | _, c :: r => endsCR (decide (c = 13)) r
theorem fix_clean {r : List Nat} (h : Clean r) : ∀ b, fixG b r = r := by
  have h0 : fixG false r = r := by have := fixG_plain r h []; simpa [fixG] using this
  intro b
  cases b with
  | false => exact h0
  | true =>
    cases r with
    | nil => rfl
    | cons c r =>
      have hc := h c (by simp)
      rw [fixG, if_neg hc.1, if_neg hc.2] at h0 ⊢
      exact h0
theorem fix_cr (y : List Nat) : ∀ (x : List Nat) (b : Bool), fixG b (x ++ 13 :: y) = fixG b x ++ 13 :: 10 :: fixG true y
  | [], b => by simp [fixG]
  | c :: x, b => by
    rw [List.cons_append, fixG, fixG, fix_cr y x false, fix_cr y x true]
    repeat' split
    all_goals simp
theorem fix_lf (y : List Nat) : ∀ (x : List Nat) (b : Bool), fixG b (x ++ 10 :: y) = fixG b x ++ (if endsCR b x then fixG false y else 13 :: 10 :: fixG false y)
  | [], b => by cases b <;> simp [fixG, endsCR]
  | c :: x, b => by
    rw [List.cons_append, fixG, fixG, endsCR, fix_lf y x false, fix_lf y x true]
    by_cases h1 : c = 10
    · subst h1; cases b <;> simp
    · by_cases h2 : c = 13
      · subst h2; simp
      · simp [h1, h2]
theorem fix_other {c : Nat} (h1 : c ≠ 10) (h2 : c ≠ 13) (y : List Nat) : ∀ (x : List Nat) (b : Bool), fixG b (x ++ c :: y) = fixG b x ++ c :: fixG false y
  | [], b => by simp [fixG, h1, h2]
  | d :: x, b => by
    rw [List.cons_append, fixG, fixG, fix_other h1 h2 y x false, fix_other h1 h2 y x true]
    repeat' split
    all_goals simp
theorem ends_app (y : List Nat) : ∀ (x : List Nat) (b : Bool), endsCR b (x ++ y) = endsCR (endsCR b x) y
  | [], _ => rfl
  | _ :: x, _ => ends_app y x _
theorem ends_clean {r : List Nat} (h : Clean r) (hne : r ≠ []) : ∀ b, endsCR b r = false := by
  induction r with
  | nil => exact absurd rfl hne
  | cons c r ih =>
    intro b
    have hc := h c (by simp)
    rw [endsCR]
    cases r with
    | nil => simp [endsCR, hc.2]
    | cons d r => exact ih (fun e he => h e (by simp [he])) (by simp) _
theorem dot_crlf (y : List Nat) : ∀ (x : List Nat) (b : Bool), dotG b (x ++ 13 :: 10 :: y) = dotG b x ++ 13 :: 10 :: dotG true y
  | [], b => by simp [dotG]
  | c :: x, b => by
    rw [List.cons_append, dotG, dotG, dot_crlf y x false, dot_crlf y x (decide (c = 10))]
    split
    · simp
    · simp
theorem dot_false : ∀ {r : List Nat}, Clean r → dotG false r = r
  | [], _ => rfl
  | c :: r, h => by
    have hc := h c (by simp)
    rw [dotG, if_neg (by simp), decide_eq_false hc.1, dot_false (fun d hd => h d (by simp [hd]))]
theorem dot_true {r : List Nat} (h : Clean r) : dotG true r = dottedL r := by
  cases r with
  | nil => rfl
  | cons c r =>
    have hc := h c (by simp)
    have ih := dot_false (r := r) fun d hd => h d (by simp [hd])
    rw [dotG]
    by_cases e : c = 46
    · subst e; simp [dottedL, ih]
    · rw [if_neg (fun z => e z.2), decide_eq_false hc.1, ih]; simp [dottedL, e]
theorem dot_count : ∀ (l : List Nat) (b : Bool), (dotG b l).count 10 = l.count 10
  | [], _ => rfl
  | c :: l, b => by
    rw [dotG]
    split
    · rename_i h
      rw [h.2]
      simp [List.count_cons, dot_count l false]
    · simp [List.count_cons, dot_count l]
theorem norm_fix : ∀ (l : List Nat) (b : Bool), normG b l = (fixG b l).filter (fun c => c != 13)
  | [], _ => rfl
  | c :: l, b => by
    rw [normG, fixG, norm_fix l false, norm_fix l true]
    by_cases h1 : c = 10
    · subst h1; cases b <;> simp
    · by_cases h2 : c = 13
      · subst h2; simp
      · simp [h1, h2]
/-- the rows so far with CR LF between them -/
def fixJ (ρ : Nat → Str) : Nat → Str
  | 0 => ρ 0
  | k + 1 => fixJ ρ k ++ crlfS ++ ρ (k + 1)
theorem cps_cr : cr.cps.toList = [13] := by decide +kernel
theorem cps_lf : lfS.cps.toList = [10] := by decide +kernel
theorem cps_crlf : crlfS.cps.toList = [13, 10] := by decide +kernel
theorem cps_nel : nel.cps.toList = [133] := by decide +kernel
theorem app3 (x j r : Str) : (x ++ j ++ r).cps.toList = x.cps.toList ++ (j.cps.toList ++ r.cps.toList) := by simp [Str.cps_append]
theorem fixS_l (x : Str) : (fixS x).cps.toList = fixG false x.cps.toList := rfl
theorem dotS_l (x : Str) : (dotS x).cps.toList = dotG true x.cps.toList := rfl
theorem dottedS_l (x : Str) : (dottedS x).cps.toList = dottedL x.cps.toList := rfl
theorem plain0 {r : Str} (g : GoodRow r) : quoteS r = dottedS r := by
  apply str_eq
  rw [quoteS, dotS_l, fixS_l, dottedS_l, fix_clean g.2, dot_true g.2]
theorem due_dot {ρ : Nat → Str} (hρ : ∀ k, GoodRow (ρ k)) : ∀ k, (stS ρ k).2 = dotS (fixJ ρ k)
  | 0 => by
    apply str_eq
    show (dottedS (ρ 0)).cps.toList = _
    rw [dottedS_l, dotS_l]
    exact (dot_true (hρ 0).2).symm
  | k + 1 => by
    apply str_eq
    show (dueS (stS ρ k).2 (ρ (k + 1))).cps.toList = _
    rw [due_dot hρ k, dotS_l, fixJ, app3, cps_crlf]
    show ((dotS (fixJ ρ k)) ++ (crlfS ++ dottedS (ρ (k + 1)))).cps.toList = dotG true ((fixJ ρ k).cps.toList ++ 13 :: 10 :: (ρ (k + 1)).cps.toList)
    rw [dot_crlf, dot_true (hρ _).2]
    simp only [Str.cps_append, Array.toList_append, dotS_l, dottedS_l, cps_crlf]
    rfl
theorem clean_count {l : List Nat} (h : Clean l) : l.count 10 = 0 := List.count_eq_zero.mpr fun z => (h _ z).1 rfl
theorem fixJ_count {ρ : Nat → Str} (hρ : ∀ k, GoodRow (ρ k)) : ∀ k, (fixJ ρ k).cps.toList.count 10 = k
  | 0 => clean_count (hρ 0).2
  | k + 1 => by
    rw [fixJ, app3, cps_crlf, List.count_append, List.count_append, fixJ_count hρ k, clean_count (hρ _).2]
    rfl
/-- the longer texts that are kept -/
def keepL (r x : Str) : List Str := (x ++ cr ++ r) :: ((if endsCR false x.cps.toList then [] else [x ++ lfS ++ r]) ++ [x ++ crlfS ++ r])
section
set_option linter.unusedSectionVars false
variable {ρ : Nat → Str} (hρ : ∀ k, GoodRow (ρ k)) {k : Nat} {x : Str} (hx : fixS x = fixJ ρ k)
include hρ hx
theorem fx_l : fixG false x.cps.toList = (fixJ ρ k).cps.toList := by rw [← hx]; rfl
theorem fx_cr : fixS (x ++ cr ++ ρ (k + 1)) = fixJ ρ (k + 1) := by
  apply str_eq
  rw [fixS_l, app3, cps_cr]
  show fixG false (x.cps.toList ++ 13 :: (ρ (k + 1)).cps.toList) = _
  rw [fix_cr, fx_l hρ hx, fix_clean (hρ _).2, fixJ, app3, cps_crlf]; rfl
theorem fx_crlf : fixS (x ++ crlfS ++ ρ (k + 1)) = fixJ ρ (k + 1) := by
  apply str_eq
  rw [fixS_l, app3, cps_crlf]
  show fixG false (x.cps.toList ++ 13 :: 10 :: (ρ (k + 1)).cps.toList) = _
  rw [fix_cr, fx_l hρ hx, fixG, if_pos rfl, if_pos rfl, fix_clean (hρ _).2, fixJ, app3, cps_crlf]; rfl
theorem fx_lf (he : endsCR false x.cps.toList = false) : fixS (x ++ lfS ++ ρ (k + 1)) = fixJ ρ (k + 1) := by
  apply str_eq
  rw [fixS_l, app3, cps_lf]
  show fixG false (x.cps.toList ++ 10 :: (ρ (k + 1)).cps.toList) = _
  rw [fix_lf, he, if_neg (by decide), fx_l hρ hx, fix_clean (hρ _).2, fixJ, app3, cps_crlf]; rfl
omit hρ hx in
theorem kept {t : Str} (hρ : ∀ k, GoodRow (ρ k)) (h : fixS t = fixJ ρ (k + 1)) : (quoteS t == dueS (stS ρ k).2 (ρ (k + 1))) = true := by
  have e : dueS (stS ρ k).2 (ρ (k + 1)) = dotS (fixJ ρ (k + 1)) := due_dot hρ (k + 1)
  rw [e, quoteS, h]; exact beq_self_eq_true _
omit hρ hx in
theorem dropped {t : Str} (hρ : ∀ k, GoodRow (ρ k)) (h : (fixS t).cps.toList.count 10 = k) : (quoteS t == dueS (stS ρ k).2 (ρ (k + 1))) = false := by
  have e : dueS (stS ρ k).2 (ρ (k + 1)) = dotS (fixJ ρ (k + 1)) := due_dot hρ (k + 1)
  rw [e, quoteS]
  refine beq_eq_false_iff_ne.mpr fun z => ?_
  have := congrArg (fun s : Str => s.cps.toList.count 10) z
  simp only [dotS_l, dot_count] at this
  rw [h, fixJ_count hρ] at this
  omega
theorem fx_keep : (joints (ρ (k + 1)) x).filter (fun t => quoteS t == dueS (stS ρ k).2 (ρ (k + 1))) = keepL (ρ (k + 1)) x := by
  have h1 := kept hρ (fx_cr hρ hx)
  have h3 := kept hρ (fx_crlf hρ hx)
  have h4 : (quoteS (x ++ nel ++ ρ (k + 1)) == dueS (stS ρ k).2 (ρ (k + 1))) = false := by
    refine dropped hρ ?_
    rw [fixS_l, app3, cps_nel]
    show (fixG false (x.cps.toList ++ 133 :: (ρ (k + 1)).cps.toList)).count 10 = k
    rw [fix_other (by decide) (by decide), fx_l hρ hx, fix_clean (hρ _).2, List.count_append, fixJ_count hρ, List.count_cons_of_ne (by decide), clean_count (hρ _).2]
    rfl
  unfold joints keepL
  cases he : endsCR false x.cps.toList with
  | true =>
    have h2 : (quoteS (x ++ lfS ++ ρ (k + 1)) == dueS (stS ρ k).2 (ρ (k + 1))) = false := by
      refine dropped hρ ?_
      rw [fixS_l, app3, cps_lf]
      show (fixG false (x.cps.toList ++ 10 :: (ρ (k + 1)).cps.toList)).count 10 = k
      rw [fix_lf, he, if_pos rfl, fx_l hρ hx, fix_clean (hρ _).2, List.count_append, fixJ_count hρ, clean_count (hρ _).2]
      rfl
    simp [List.filter_cons, h1, h2, h3, h4]
  | false =>
    have h2 := kept hρ (fx_lf hρ hx he)
    simp [List.filter_cons, h1, h2, h3, h4]
theorem keep_fix : ∀ t ∈ keepL (ρ (k + 1)) x, fixS t = fixJ ρ (k + 1) := by
  intro t ht
  unfold keepL at ht
  cases he : endsCR false x.cps.toList with
  | true =>
    simp [he] at ht
    rcases ht with rfl | rfl
    · exact fx_cr hρ hx
    · exact fx_crlf hρ hx
  | false =>
    simp [he] at ht
    rcases ht with rfl | rfl | rfl
    · exact fx_cr hρ hx
    · exact fx_lf hρ hx he
    · exact fx_crlf hρ hx
end
theorem flat_congr {f g : Str → List Str} : ∀ {l : List Str}, (∀ t ∈ l, f t = g t) → l.flatMap f = l.flatMap g
  | [], _ => rfl
  | t :: l, h => by rw [List.flatMap_cons, List.flatMap_cons, h t (by simp), flat_congr (l := l) fun u hu => h u (by simp [hu])]
theorem st_step {ρ : Nat → Str} (hρ : ∀ k, GoodRow (ρ k)) {k : Nat} (h : ∀ t ∈ (stS ρ k).1, fixS t = fixJ ρ k) : (stS ρ (k + 1)).1 = (stS ρ k).1.flatMap (keepL (ρ (k + 1))) := by
  show growL (stS ρ k).1 (ρ (k + 1)) (dueS (stS ρ k).2 (ρ (k + 1))) = _
  rw [growL, List.filter_flatMap]
  exact flat_congr fun t ht => fx_keep hρ (h t ht)
theorem st_fix {ρ : Nat → Str} (hρ : ∀ k, GoodRow (ρ k)) : ∀ k, ∀ t ∈ (stS ρ k).1, fixS t = fixJ ρ k
  | 0, t, ht => by
    have e : t = ρ 0 := by simpa [stS] using ht
    subst e
    apply str_eq
    rw [fixS_l, fix_clean (hρ 0).2]; rfl
  | k + 1, t, ht => by
    rw [st_step hρ (st_fix hρ k), List.mem_flatMap] at ht
    obtain ⟨x, hx, ht⟩ := ht
    exact keep_fix hρ (st_fix hρ k x hx) t ht
theorem join_snoc (sep q : Str) : ∀ (ps : List Str), ps ≠ [] → Str.join sep (ps ++ [q]) = Str.join sep ps ++ sep ++ q
  | [], h => absurd rfl h
  | [p], _ => rfl
  | p :: p' :: ps, _ => by
    have ih := join_snoc sep q (p' :: ps) (by simp)
    apply str_eq
    rw [app3]
    show (Str.join sep (p :: p' :: (ps ++ [q]))).cps.toList = _
    rw [join_cons_cps, join_cons_cps]
    have ih' := congrArg (fun s : Str => s.cps.toList) ih
    simp only [app3] at ih'
    have e : p' :: (ps ++ [q]) = (p' :: ps) ++ [q] := rfl
    rw [e, ih']
    simp [List.append_assoc]
theorem fixJ_join (ρ : Nat → Str) : ∀ k, fixJ ρ k = Str.join crlfS ((List.range (k + 1)).map ρ)
  | 0 => rfl
  | k + 1 => by
    rw [List.range_succ, List.map_append, List.map_singleton, join_snoc _ _ _ (by simp [List.range_succ]), ← fixJ_join ρ k]; rfl
theorem plain_fix {ρ : Nat → Str} (hρ : ∀ k, GoodRow (ρ k)) (i : Nat) : ∀ t ∈ (stS ρ i).1, fixS t = Str.join crlfS ((List.range (i + 1)).map ρ) := fun t ht => by
  rw [st_fix hρ i t ht, fixJ_join]
theorem filter_clean {l : List Nat} (h : Clean l) : l.filter (fun c => c != 13) = l := List.filter_eq_self.mpr fun c hc => by simpa using (h c hc).2
theorem norm_join {ρ : Nat → Str} (hρ : ∀ k, GoodRow (ρ k)) : ∀ k, (fixJ ρ k).cps.toList.filter (fun c => c != 13) = (Str.join ⟨#[10]⟩ ((List.range (k + 1)).map ρ)).cps.toList
  | 0 => filter_clean (hρ 0).2
  | k + 1 => by
    rw [List.range_succ, List.map_append, List.map_singleton, join_snoc _ _ _ (by simp [List.range_succ]), app3, ← norm_join hρ k, fixJ, app3, cps_crlf, List.filter_append, List.filter_append, filter_clean (hρ _).2]
    rfl
theorem plain_read {ρ : Nat → Str} (hρ : ∀ k, GoodRow (ρ k)) (i : Nat) : ∀ t ∈ (stS ρ i).1, readS t = (List.range (i + 1)).map ρ := fun t ht => by
  unfold readS
  rw [of_lf]
  refine split_join (by simp [List.range_succ]) (fun p hp => ?_) ?_
  · obtain ⟨k, _, rfl⟩ := List.mem_map.mp hp
    exact fun z => ((hρ k).2 _ z).1 rfl
  · show normG false t.cps.toList = _
    rw [norm_fix, ← norm_join hρ i, ← st_fix hρ i t ht]; rfl
/-- how many end in a CR -/
def crs (ts : List Str) : Nat := ts.countP fun t => endsCR false t.cps.toList
theorem keep_len (r : Str) : ∀ ts : List Str, (ts.flatMap (keepL r)).length + crs ts = 3 * ts.length
  | [] => rfl
  | t :: ts => by
    have ih := keep_len r ts
    have e : (keepL r t).length + (if endsCR false t.cps.toList = true then 1 else 0) = 3 := by
      unfold keepL
      cases endsCR false t.cps.toList <;> simp
    unfold crs at ih ⊢
    rw [List.flatMap_cons, List.length_append, List.countP_cons, List.length_cons]
    omega
theorem keep_crs {r : Str} (g : GoodRow r) : ∀ ts : List Str, crs (ts.flatMap (keepL r)) = if r.cps.toList = [] then ts.length else 0
  | [] => by simp [crs]
  | t :: ts => by
    have ih := keep_crs g ts
    unfold crs at ih ⊢
    rw [List.flatMap_cons, List.countP_append, ih, List.length_cons]
    have e : ∀ j : Str, endsCR false (t ++ j ++ r).cps.toList = endsCR (endsCR (endsCR false t.cps.toList) j.cps.toList) r.cps.toList := fun j => by rw [app3, ends_app, ends_app]
    have e1 := e cr
    have e2 := e lfS
    have e3 := e crlfS
    rw [cps_cr] at e1
    rw [cps_lf] at e2
    rw [cps_crlf] at e3
    by_cases h : r.cps.toList = []
    · rw [h] at e1 e2 e3
      simp only [endsCR] at e1 e2 e3
      unfold keepL
      rw [if_pos h]
      rw [if_pos h]
      cases endsCR false t.cps.toList <;> simp [List.countP_cons, e1, e2, e3] <;> omega
    · rw [ends_clean g.2 h] at e1 e2 e3
      unfold keepL
      rw [if_neg h, if_neg h]
      cases endsCR false t.cps.toList <;> simp [List.countP_cons, e1, e2, e3]
/-- the lengths -/
theorem plain_lens {ρ : Nat → Str} (hρ : ∀ k, GoodRow (ρ k)) : (stS ρ 0).1.length = 1 ∧ (stS ρ 1).1.length = 3 ∧ (stS ρ 2).1.length = (if (ρ 1).cps.toList = [] then 8 else 9) ∧
    (stS ρ 3).1.length = (if (ρ 1).cps.toList = [] then (if (ρ 2).cps.toList = [] then 21 else 24) else (if (ρ 2).cps.toList = [] then 24 else 27)) := by
  have l0 : (stS ρ 0).1.length = 1 := rfl
  have c0 : crs (stS ρ 0).1 = 0 := by
    show crs [ρ 0] = 0
    unfold crs
    rw [List.countP_singleton]
    by_cases h : (ρ 0).cps.toList = []
    · rw [h]; rfl
    · rw [ends_clean (hρ 0).2 h]; rfl
  have s1 := st_step hρ (st_fix hρ 0)
  have s2 := st_step hρ (st_fix hρ 1)
  have s3 := st_step hρ (st_fix hρ 2)
  have n1 := keep_len (ρ (0 + 1)) (stS ρ 0).1
  have n2 := keep_len (ρ (1 + 1)) (stS ρ 1).1
  have n3 := keep_len (ρ (2 + 1)) (stS ρ 2).1
  have k1 := keep_crs (hρ (0 + 1)) (stS ρ 0).1
  have k2 := keep_crs (hρ (1 + 1)) (stS ρ 1).1
  rw [← s1] at n1 k1
  rw [← s2] at n2 k2
  rw [← s3] at n3
  simp only [Nat.zero_add, Nat.reduceAdd] at n1 n2 n3 k1 k2 ⊢
  refine ⟨l0, by omega, ?_, ?_⟩
  · split at k1 <;> simp_all <;> omega
  · split at k1 <;> split at k2 <;> simp_all <;> omega
end Mine
end
section
open PySem
set_option maxRecDepth 100000
namespace Mine
theorem plain_len {ρ : Nat → Str} (hρ : ∀ k, GoodRow (ρ k)) (i : Nat) (hi : i < 4) : ((stS ρ i).1.length : Int) = countS ((List.range (i + 1)).map ρ) := by
  obtain ⟨h0, h1, h2, h3⟩ := plain_lens hρ
  match i, hi with
  | 0, _ => rw [h0]; rfl
  | 1, _ => rw [h1]; rfl
  | 2, _ =>
    rw [h2]
    show _ = countS [ρ 0, ρ 1, ρ 2]
    have em : midL [ρ 0, ρ 1, ρ 2] = [ρ 1] := rfl
    unfold countS
    rw [em]
    by_cases a : (ρ 1).cps.toList = []
    · simp only [List.foldl_cons, List.foldl_nil, szStep, if_pos a]; rfl
    · simp only [List.foldl_cons, List.foldl_nil, szStep, if_neg a]; rfl
  | 3, _ =>
    rw [h3]
    show _ = countS [ρ 0, ρ 1, ρ 2, ρ 3]
    have em : midL [ρ 0, ρ 1, ρ 2, ρ 3] = [ρ 1, ρ 2] := rfl
    unfold countS
    rw [em]
    by_cases a : (ρ 1).cps.toList = []
    · by_cases b : (ρ 2).cps.toList = []
      · simp only [List.foldl_cons, List.foldl_nil, szStep, if_pos a, if_pos b]; rfl
      · simp only [List.foldl_cons, List.foldl_nil, szStep, if_pos a, if_neg b]; rfl
    · by_cases b : (ρ 2).cps.toList = []
      · simp only [List.foldl_cons, List.foldl_nil, szStep, if_neg a, if_pos b]; rfl
      · simp only [List.foldl_cons, List.foldl_nil, szStep, if_neg a, if_neg b]; rfl
end Mine
end
section
open PySem PySem.W PySem.Calls PyProof.Rows
set_option Elab.async false
set_option maxRecDepth 100000
namespace Mine
section
variable {A : Around} {s : Shared}
theorem str_at {ps : List (Str × Tok)} {j : Nat} (h : j < (strValues ps).toArray.size) : ∃ (h' : j < ps.length), (strValues ps).toArray[j] = .str ps[j].1 ps[j].2 := by
  have h' : j < ps.length := by simpa [strValues] using h
  exact ⟨h', by simp [strValues]⟩
theorem all_true (n : Nat) : (List.range n).all (fun _ => true) = true := by simp
theorem eq_rows {a b : Addr} {pa pb : List (Str × Tok)} (ha : s.heap.IsList a (strValues pa).toArray) (hb : s.heap.IsList b (strValues pb).toArray) (e : pa.map (·.1) = pb.map (·.1)) (hu : A.units < cLine) : SeqAt.EqAt A s (.ref a) (.ref b) true := by
  by_cases hab : a = b
  · subst hab; exact SeqAt.EqAt.same _
  · have hl : pa.length = pb.length := by simpa using congrArg List.length e
    have := SeqAt.RcAt.lists (e := fun _ => true) ha hb (by simpa [strValues] using hl) hu fun j h1 h2 => ?_
    · rw [all_true] at this
      exact SeqAt.EqAt.of_refs hab this
    · obtain ⟨k1, e1⟩ := str_at h1
      obtain ⟨k2, e2⟩ := str_at h2
      rw [e1, e2]
      have e3 : pa[j].1 = pb[j].1 := by
        have := congrArg (fun l : List Str => l[j]?) e
        simpa [List.getElem?_eq_getElem k1, List.getElem?_eq_getElem k2] using this
      have := SeqAt.EqAt.str_str (A := A.in1) (s := s) pa[j].1 pa[j].2 pb[j].1 pb[j].2
      rw [e3] at this ⊢
      rwa [beq_self_eq_true] at this
end
section
variable {prog : Program} {w : World} {A : Around} {E : Value → Shared → Prop} {s : Shared} {Q : Value → Shared → Prop}
/-- a list of lists of rows is not unlike the rows so many times -/
theorem ne_reads {D X a : Addr} {es : List (Addr × Obj)} {n : Nat} {ps : List (Str × Tok)} (hD : s.heap.IsList D (es.map fun p => Value.ref p.1).toArray) (hX : s.heap.IsList X (List.replicate n (Value.ref a)).toArray) (hn : es.length = n)
    (ha : s.heap.IsList a (strValues ps).toArray) (hes : ∀ p ∈ es, ∃ qs, s.heap.IsList p.1 (strValues qs).toArray ∧ qs.map (·.1) = ps.map (·.1)) (hu : A.units + 1 < cLine) (h : Q (.bool false) s) :
    wpAny (model prog w) A (compareOp .NotEq (.ref D) (.ref X)) Q E s := by
  have := SeqAt.RcNeAt.lists (A := A) (e := fun _ => true) hD hX (by simp [hn]) (by omega) fun j h1 h2 => ?_
  · rw [all_true] at this
    exact this prog w E Q h
  · have k1 : j < es.length := by simpa using h1
    obtain ⟨qs, q1, q2⟩ := hes es[j] (List.getElem_mem k1)
    have e1 : (es.map fun p => Value.ref p.1).toArray[j] = .ref es[j].1 := by simp
    have e2 : (List.replicate n (Value.ref a)).toArray[j] = .ref a := by simp
    rw [e1, e2]
    exact eq_rows q1 ha q2 hu
/-- a list of texts is not unlike one text so many times -/
theorem ne_fixes {D X : Addr} {fs : List (Str × Tok)} {n : Nat} {y : Str} {t : Tok} (hD : s.heap.IsList D (strValues fs).toArray) (hX : s.heap.IsList X (List.replicate n (Value.str y t)).toArray) (hn : fs.length = n)
    (hfs : ∀ f ∈ fs, f.1 = y) (hu : A.units < cLine) (h : Q (.bool false) s) :
    wpAny (model prog w) A (compareOp .NotEq (.ref D) (.ref X)) Q E s := by
  have := SeqAt.RcNeAt.lists (A := A) (e := fun _ => true) hD hX (by simp [strValues, hn]) hu fun j h1 h2 => ?_
  · rw [all_true] at this
    exact this prog w E Q h
  · obtain ⟨k1, e1⟩ := str_at h1
    have e2 : (List.replicate n (Value.str y t)).toArray[j] = .str y t := by simp
    rw [e1, e2]
    have e3 : fs[j].1 = y := hfs _ (List.getElem_mem k1)
    have := SeqAt.EqAt.str_str (A := A.in1) (s := s) fs[j].1 fs[j].2 y t
    rw [e3] at this ⊢
    rwa [beq_self_eq_true] at this
/-- a list of one, so many times -/
theorem mul_one {h₀ : Heap} {L l : Addr} {m : Str → Option Value} {news : List (Addr × Obj)} {v : Value} {k n : Nat} {u : Tok} (Fm : Fr h₀ L s.heap m) (N : News h₀ L s.heap news)
    (hl : s.heap.get? l = some { cls := .type "list", dict := none, data := .seq #[v] k, slots := #[] }) (hn : n ≤ 1000)
    (h : ∀ h', Fr h₀ L h' m → News h₀ L h' ((s.heap.objs.size, { cls := .type "list", data := .seq (List.replicate n v).toArray }) :: news) → Q (.ref s.heap.objs.size) { s with heap := h' }) :
    wpAny (model prog w) A (binaryOp .Mult (.ref l) (.int (n : Nat) u)) Q E s := by
  have e : List.foldl (fun x1 x2 => x1 ++ x2) #[] (List.replicate (if (#[v] : Array Value).isEmpty = true then 0 else (n : Int).toNat) #[v]) = (List.replicate n v).toArray := by
    rw [listMul_foldl_if]
    simp
  refine mul_list Fm N hl (by omega) (by omega) (by simp; omega) fun h' F' N' => h h' F' ?_
  rw [e] at N'
  exact N'
end
theorem fr_but {gh h h' : Heap} {L : Addr} {m : Str → Option Value} (F : Fr gh L h m) (g : gh.get? 92 = none) (n : (92 : Addr) ≠ L) (k : Stay [92] h h') : Fr gh L h' m :=
  ⟨F.ns.at' fun o e => k _ o (by simpa using n.symm) e, fun b o e => k b o (by simp; rintro rfl; rw [g] at e; cases e) (F.keep b o e), F.above⟩
theorem news_but {gh h h' : Heap} {L : Addr} {tb : Array Value} {news : List (Addr × Obj)} (N : News gh L h news) (e : h.get? 92 = some (tabObj tb)) (n : ∀ p ∈ news, p.2.cls ≠ Value.none) (k : Stay [92] h h') : News gh L h' news := fun p hp => by
  obtain ⟨a, b, c⟩ := N p hp
  refine ⟨k _ _ (by simp; intro z; rw [z, e] at a; exact n p hp (by rw [← Option.some.inj a])) a, b, c⟩
theorem news_app {gh h : Heap} {L : Addr} {l es : List (Addr × Obj)} (N : News gh L h l) (M : News gh L h es) : News gh L h (l ++ es) := fun p hp => by
  rcases List.mem_append.mp hp with hp | hp
  · exact N p hp
  · exact M p hp
theorem news_sub {gh h : Heap} {L : Addr} {l es : List (Addr × Obj)} (N : News gh L h l) (s : ∀ p ∈ es, p ∈ l) : News gh L h es := fun p hp => N p (s p hp)
/-- the table's object has changed -/
theorem news_swap {gh h h' : Heap} {L : Addr} {tb tb' : Array Value} {pre post : List (Addr × Obj)} {it x : Addr × Obj} (N : News gh L h (pre ++ (92, tabObj tb) :: it :: x :: post)) (hp : ∀ p ∈ pre, p.2.cls ≠ Value.none) (hi : it.2.cls ≠ Value.none) (hq : ∀ p ∈ post, p.2.cls ≠ Value.none)
    (k : Stay [92] h h') (e' : h'.get? 92 = some (tabObj tb')) : News gh L h' (pre ++ (92, tabObj tb') :: it :: post) := by
  have n92 := N (92, tabObj tb) (by simp)
  have N' : News gh L h (pre ++ it :: post) := news_sub N fun p hp => by
    simp only [List.mem_append, List.mem_cons] at hp ⊢
    rcases hp with hp | hp | hp
    · exact .inl hp
    · exact .inr (.inr (.inl hp))
    · exact .inr (.inr (.inr (.inr hp)))
  have M := news_but N' n92.1 (fun p h => by
    simp only [List.mem_append, List.mem_cons] at h
    rcases h with h | h | h
    · exact hp p h
    · rw [h]; exact hi
    · exact hq p h) k
  intro p h
  simp only [List.mem_append, List.mem_cons] at h
  rcases h with h | h | h | h
  · exact M p (by simp [h])
  · rw [h]; exact ⟨e', n92.2⟩
  · exact M p (by simp [h])
  · exact M p (by simp [h])
theorem strsAre_of : ∀ ps : List (Str × Tok), StrsAre (strValues ps) (ps.map (·.1))
  | [] => .nil
  | p :: ps => .cons p.1 p.2 (strsAre_of ps)
theorem join_is (sep : Str) (ys : List Str) : Txt.join sep ys = Str.join sep ys := eq_of_beq (join_plain_closes sep ys)
theorem tups_pick {gh h : Heap} {L : Addr} {m : Str → Option Value} (F : Fr gh L h m) : ∀ {Ts : List (List Str × Str)} {vs : List Value}, TupsAt gh h Ts vs →
    ∃ tl : List (Addr × Obj), News gh L h tl ∧ (∀ p ∈ tl, p.2.cls ≠ Value.none) ∧ ∀ h' : Heap, (∀ p ∈ tl, h'.get? p.1 = some p.2) → TupsAt gh h' Ts vs
  | [], _, e => ⟨[], News.nil, by simp, fun _ _ => e⟩
  | _ :: Ts, _, ⟨v, ws, e, ⟨b, c, td, qs, n, x1, x2, x3, x4, x5, x6⟩, y⟩ => by
    obtain ⟨tl, a1, a2, a3⟩ := tups_pick F y
    obtain ⟨o', es, ep, e', d', _⟩ := F.ns
    have nb : b ≠ L := by rintro rfl; rw [x4] at e'; cases e'; cases d'
    have nc : c ≠ L := by rintro rfl; rw [x5] at e'; cases e'; cases d'
    refine ⟨(b, _) :: (c, _) :: tl, news_more (news_more a1 x5 nc x3) x4 nb x2, ?_, ?_⟩
    · intro p hp
      rcases List.mem_cons.mp hp with rfl | hp
      · simp
      · rcases List.mem_cons.mp hp with rfl | hp
        · simp
        · exact a2 p hp
    · intro h' hh
      exact ⟨v, ws, e, ⟨b, c, td, qs, n, x1, x2, x3, hh (b, _) (by simp), hh (c, _) (by simp), x6⟩, a3 h' fun p hp => hh p (by simp [hp])⟩
end Mine
end
section
open PySem PySem.W PyProof.Rows
set_option Elab.async false
namespace Mine
theorem news_new {gh h h' : Heap} {L a : Addr} {o : Obj} {m : Str → Option Value} {news : List (Addr × Obj)} (F : Fr gh L h m) (N : News gh L h news) (k : h.StaysIn h') (an : h.get? a = none) (ae : h'.get? a = some o) : News gh L h' ((a, o) :: news) :=
  news_more (news_stays N k) ae (fun z => by obtain ⟨o, _, _, e, _⟩ := F.ns; rw [z, e] at an; cases an) (by
    cases q : gh.get? a with
    | none => rfl
    | some o => rw [F.keep _ _ q] at an; cases an)
theorem get?_none_of_size {h : Heap} {L : Addr} (x : h.objs.size ≤ L) : h.get? L = none := by
  cases e : h.get? L with
  | none => rfl
  | some o => exact absurd (Heap.lt_size e) (Nat.not_lt.mpr x)
theorem news_seq {gh h : Heap} {L a : Addr} {cls : Value} {its : Array Value} {n : Nat} {m : Str → Option Value} {news : List (Addr × Obj)} (F : Fr gh L h m) (N : News gh L h news) (e : h.get? a = some { cls := cls, data := .seq its n }) (gn : gh.get? a = none) : News gh L h ((a, { cls := cls, data := .seq its n }) :: news) :=
  news_more N e (by
    rintro rfl
    obtain ⟨o', es, ep, e', d', _⟩ := F.ns
    rw [e] at e'; cases e'; cases d') gn
def rho (r0 r1 r2 r3 : Str) : Nat → Str
  | 0 => r0
  | 1 => r1
  | 2 => r2
  | _ => r3
def rowsL (r0 r1 r2 r3 : Str) (t0 t1 t2 t3 : Tok) : List (Str × Tok) := [(r0, t0), (r1, t1), (r2, t2), (r3, t3)]
theorem slice_ahead (r0 r1 r2 r3 : Str) (t0 t1 t2 t3 : Tok) {i : Nat} (hi : i < 4) : slicePick #[Value.str r0 t0, Value.str r1 t1, Value.str r2 t2, Value.str r3 t3] none (some ((i : Int) + 1)) none = (strValues ((rowsL r0 r1 r2 r3 t0 t1 t2 t3).take (i + 1))).toArray := by
  match i, hi with
  | 0, _ => rfl
  | 1, _ => rfl
  | 2, _ => rfl
  | 3, _ => rfl
theorem rows_ahead (r0 r1 r2 r3 : Str) (t0 t1 t2 t3 : Tok) {i : Nat} (hi : i < 4) : ((rowsL r0 r1 r2 r3 t0 t1 t2 t3).take (i + 1)).map (·.1) = (List.range (i + 1)).map (rho r0 r1 r2 r3) := by
  match i, hi with
  | 0, _ => rfl
  | 1, _ => rfl
  | 2, _ => rfl
  | 3, _ => rfl
theorem rows_sum (r0 r1 r2 r3 : Str) (t0 t1 t2 t3 : Tok) (h0 : r0.length ≤ 2) (h1 : r1.length ≤ 2) (h2 : r2.length ≤ 2) (h3 : r3.length ≤ 2) {i : Nat} (hi : i < 4) :
    ((((rowsL r0 r1 r2 r3 t0 t1 t2 t3).take (i + 1)).map (·.1)).map (·.length)).sum + (((rowsL r0 r1 r2 r3 t0 t1 t2 t3).take (i + 1)).map (·.1)).length * (Str.ofString "\r\n").length ≤ 16777216 := by
  have e : (Str.ofString "\r\n").length = 2 := by decide +kernel
  rw [e]
  match i, hi with
  | 0, _ => simp [rowsL]; omega
  | 1, _ => simp [rowsL]; omega
  | 2, _ => simp [rowsL]; omega
  | 3, _ => simp [rowsL]; omega
theorem rho_all {P : Str → Prop} {r0 r1 r2 r3 : Str} (h0 : P r0) (h1 : P r1) (h2 : P r2) (h3 : P r3) : ∀ k, P (rho r0 r1 r2 r3 k)
  | 0 => h0
  | 1 => h1
  | 2 => h2
  | _ + 3 => h3
theorem law_reduce {w : World} {p : Program} {loose : List Str} {mean : ExcName → Option Value} {mg mb : Str → Option Value} {dp un : Nat} {fr : Option (List Env)} {gd : Option (List Code)} {s : Shared} {g₀ : Heap} {D b c g : Addr} {r0 r1 r2 r3 : Str} {t0 t1 t2 t3 td : Tok} {n n' n'' : Nat} (G : Gd w p loose mean mg mb s.heap) (hg₀ : g₀.StaysIn s.heap) (hdp : dp < 700) (g0 : GoodRow r0) (g1 : GoodRow r1) (g2 : GoodRow r2) (g3 : GoodRow r3)
    (hD : s.heap.get? D = some (listOf #[.str r1 t1, .str r2 t2, .str r3 t3] n)) (hg : s.heap.get? g = some (listOf #[.ref b] n')) (hb : s.heap.get? b = some { cls := Value.type "tuple", data := Data.seq #[.ref c, .str (dottedS r0) td] }) (hc : s.heap.get? c = some (listOf #[.str r0 t0] n'')) (gn : g₀.get? g = none) (bn : g₀.get? b = none) (cn : g₀.get? c = none) :
    codeAny (model Challenge.rw_nb0035_01.row.prog w) ({ handled := none, depth := dp, frames := fr, guards := gd, units := un } : Around) (.call (.ref 64) ⟨[.ref 83, .ref D, .ref g], []⟩) (Got s (GrowP g₀ (rho r0 r1 r2 r3) 3)) s := by
  refine c_reduceG (items := [.str r1 t1, .str r2 t2, .str r3 t3]) G hg₀ hdp ⟨_, hD, rfl, _, rfl⟩ (by simp) (rho_all (P := fun r => r.length ≤ 2) g0.1 g1.1 g2.1 g3.1) ?_ ⟨g, [.ref b], _, rfl, gn, hg, ?_⟩
  · intro i x hx
    match i with
    | 0 => exact ⟨t1, by simpa [rho] using hx.symm⟩
    | 1 => exact ⟨t2, by simpa [rho] using hx.symm⟩
    | 2 => exact ⟨t3, by simpa [rho] using hx.symm⟩
    | i + 3 => simp at hx
  · exact ⟨_, _, rfl, ⟨b, c, td, [(r0, t0)], _, rfl, bn, cn, hb, hc, rfl⟩, rfl⟩
set_option maxRecDepth 100000 in
set_option maxHeartbeats 8000000 in
theorem t : PySem.Challenge.rw_nb0035_01.Holds := hd (by
   k_go0
   all_goals try k_fold
   iterate 9 (first | (k_unfold; (try dsimp only)) | (k_end; kc_close) | walk1 | (dsimp only; walk1) | (leave1; walk_say "STEP leave1"; (try dsimp only)))
   rename News _ _ _ _ => N1
   rename Fr _ _ _ _ => F1
   rename IntsAre _ _ => hI
   rename Top topProg _ _ _ _ _ => T
   rename (Mine.hd.heap_39 _).In (ghostOf _ _) => X
   rename Heap.IsList (ghostOf _ _) _ _ => hls
   rename ¬ ((63 : Nat) : Int) < _ => h63
   rename CodeHd _ _ _ => hCH
   rename Heap.CodeRec _ _ _ => q1
   rename Dflts _ _ _ _ _ _ => q2
   rename Ground _ _ _ _ _ _ _ _ _ => q3
   rename Top hd.view_39 _ _ _ _ _ => q4
   rename Tables _ _ _ _ => q5
   rename TopE _ _ _ _ => q6
   rename TopW _ _ _ => q7
   clear q1 q2 q4 q5 q6 q7
   generalize hgh : ghostOf _ [(96, 92)] = gh at *
   have G := (⟨X, T⟩ : Gd _ _ _ _ _ _ gh)
   have hns := Nat.not_lt.mp (fun z => h63 (Int.ofNat_lt.mpr z))
   refine got_call (c_rows (G.keeps F1.keep) (by decide) (hls.at fun o e => F1.keep _ o e) hI hns) fun v h2 tk2 k2 r => ?_
   obtain ⟨ra, r0, t0, r1, t1, r2, t2, r3, t3, nr, rfl, ran, rae, g0, g1, g2, g3⟩ := r
   dsimp only at k2 ran rae ⊢
   have F2 := fr_stays F1 k2
   have N2 := news_new F1 N1 k2 ran rae
   clear F1 N1
   iterate 42 (first | (k_unfold; (try dsimp only)) | (k_end; kc_close) | walk1 | (dsimp only; walk1) | (leave1; walk_say "STEP leave1"; (try dsimp only)))
   rename News _ _ _ _ => N3
   rename Fr _ _ _ _ => F3
   have hρ0 : r0.length ≤ 1000 := Nat.le_trans g0.1 (by decide)
   refine got_call (c_dotted (G.keeps F3.keep) (by show callerA.depth + 1 < 900; decide) hρ0) fun v h4 tk4 k4 r => ?_
   obtain ⟨td, rfl⟩ := r
   dsimp only at k4 ⊢
   have F4 := fr_stays F3 k4
   have N4 := news_stays N3 k4
   clear F3 N3
   iterate 6 (first | (k_unfold; (try dsimp only)) | (k_end; kc_close) | walk1 | (dsimp only; walk1) | (leave1; walk_say "STEP leave1"; (try dsimp only)))
   rename News _ _ _ _ => N5
   rename Fr _ _ _ _ => F5
   have m0 := N5 _ (List.mem_cons_self ..)
   have m1 := N5 _ (List.mem_cons_of_mem _ (List.mem_cons_self ..))
   have m2 := N5 _ (List.mem_cons_of_mem _ (List.mem_cons_of_mem _ (List.mem_cons_self ..)))
   have m3 := N5 _ (List.mem_cons_of_mem _ (List.mem_cons_of_mem _ (List.mem_cons_of_mem _ (List.mem_cons_self ..))))
   have m4 := N5 _ (List.mem_cons_of_mem _ (List.mem_cons_of_mem _ (List.mem_cons_of_mem _ (List.mem_cons_of_mem _ (List.mem_cons_self ..)))))
   have m5 := N5 _ (List.mem_cons_of_mem _ (List.mem_cons_of_mem _ (List.mem_cons_of_mem _ (List.mem_cons_of_mem _ (List.mem_cons_of_mem _ (List.mem_cons_self ..))))))
   refine got_call (law_reduce (G.keeps F5.keep) F5.keep (by decide) g0 g1 g2 g3 m3.1 m0.1 m1.1 m2.1 m0.2.2 m1.2.2 m2.2.2) fun v h6 tk6 k6 r => ?_
   dsimp only at k6 r m4 m5 ⊢
   have F6 := fr_stays F5 k6
   obtain ⟨ga, gvs, gn, rfl, gan, gae, gT⟩ := r
   obtain ⟨_, _, rfl, ⟨b0, c0, d0, q0, n0, rfl, bn0, cn0, be0, ce0, hq0⟩, gT⟩ := gT
   obtain ⟨_, _, rfl, ⟨b1, c1, d1, q1, n1, rfl, bn1, cn1, be1, ce1, hq1⟩, gT⟩ := gT
   obtain ⟨_, _, rfl, ⟨b2, c2, d2, q2, n2, rfl, bn2, cn2, be2, ce2, hq2⟩, gT⟩ := gT
   obtain ⟨_, _, rfl, ⟨b3, c3, d3, q3, n3, rfl, bn3, cn3, be3, ce3, hq3⟩, gT⟩ := gT
   cases gT
   have N6a := news_more (news_more News.nil (k6 _ _ m5.1) m5.2.1 m5.2.2) (k6 _ _ m4.1) m4.2.1 m4.2.2
   have N6b := news_seq F6 (news_seq F6 (news_seq F6 (news_seq F6 N6a ce3 cn3) ce2 cn2) ce1 cn1) ce0 cn0
   have N6 := news_seq F6 (news_seq F6 (news_seq F6 (news_seq F6 (news_seq F6 N6b be3 bn3) be2 bn2) be1 bn1) be0 bn0) gae gan
   clear m0 m1 m2 m3 m4 m5 F5 N5 N6a N6b
   iterate 29 (first | (k_unfold; (try dsimp only)) | (k_end; kc_close) | walk1 | (dsimp only; walk1) | (leave1; walk_say "STEP leave1"; (try dsimp only)))
   rename News _ _ _ _ => N7
   rename Fr _ _ _ _ => F7
   refine got_call (c_quote (G.keeps F7.keep) (by show callerA.depth + 1 < 900; decide) hρ0) fun v h8 tk8 k8 r => ?_
   rw [plain0 g0] at r
   dsimp only at k8 r ⊢
   obtain ⟨tq, rfl⟩ := r
   have F8 := fr_stays F7 k8
   have N8 := news_stays N7 k8
   clear F7 N7
   iterate 9 (first | (k_unfold; (try dsimp only)) | (k_end; kc_close) | walk1 | (dsimp only; walk1) | (leave1; walk_say "STEP leave1"; (try dsimp only)))
   have e0 : (dottedS r0 != (stS (rho r0 r1 r2 r3) 0).snd) = false := by simp [stS, rho]
   rw [e0]
   iterate 6 (first | (k_unfold; (try dsimp only)) | (k_end; kc_close) | walk1 | (dsimp only; walk1) | (leave1; walk_say "STEP leave1"; (try dsimp only)))
   refine wpAny_For ?_ (fun _ => rfl)
   k_steps
   rename News _ _ _ _ => N9
   rename Fr _ _ _ _ => F9
   rename IsRange _ _ _ _ _ _ _ _ => hR9
   refine wpAny_pyIter_range hR9 (by decide) ?_
   dsimp only at N9 F9 ⊢
   rename_i h9 _ _ _ _ _
   have hIit : IsRangeIter (h9.push { cls := .type "range_iterator", data := .fields #[rawInt 0, rawInt (Builtin.Range.rangeSize 0 4 1), rawInt 1] }) h9.objs.size 0 (4 : Nat) 1 := Heap.get?_push_size _ rfl
   have hpu : ∀ b o, h9.get? b = some o → (h9.push { cls := .type "range_iterator", data := .fields #[rawInt 0, rawInt (Builtin.Range.rangeSize 0 4 1), rawInt 1] }).get? b = some o := fun b o e => Heap.get?_push_of_some _ e
   have neI : ∀ b o, h9.get? b = some o → b ≠ h9.objs.size := fun b o e => Nat.ne_of_lt (Heap.lt_size e)
   generalize h9.push { cls := .type "range_iterator", data := .fields #[rawInt 0, rawInt (Builtin.Range.rangeSize 0 4 1), rawInt 1] } = gI at hIit hpu ⊢
   have hIg : gh.get? h9.objs.size = none := by
     cases q : gh.get? h9.objs.size with
     | none => rfl
     | some o => exact absurd rfl (neI _ _ (F9.keep _ _ q))
   have hJ0 : LawJ gh ra ga [.str r0 t0, .str r1 t1, .str r2 t2, .str r3 t3] nr gn (rho r0 r1 r2 r3) [.ref b0, .ref b1, .ref b2, .ref b3] 0 (fun y => if y = Str.ofString "grown" then some (Value.ref ga) else if y = Str.ofString "rows" then some (Value.ref ra) else none) gI := by
     have up : ∀ i p, _ → gI.get? (p : Addr × Obj).1 = some p.2 := fun i p e => hpu _ _ (news_nth N9 i e).1
     refine ⟨rfl, rfl, fun b o e => hpu _ _ (F9.keep _ _ e), up 9 _ rfl, up 0 _ rfl, ?_, #[], up 10 _ rfl, .inl rfl⟩
     exact ⟨_, _, rfl, ⟨b0, c0, d0, q0, n0, rfl, bn0, cn0, up 1 _ rfl, up 5 _ rfl, hq0⟩, _, _, rfl, ⟨b1, c1, d1, q1, n1, rfl, bn1, cn1, up 2 _ rfl, up 6 _ rfl, hq1⟩, _, _, rfl, ⟨b2, c2, d2, q2, n2, rfl, bn2, cn2, up 3 _ rfl, up 7 _ rfl, hq2⟩, _, _, rfl, ⟨b3, c3, d3, q3, n3, rfl, bn3, cn3, up 4 _ rfl, up 8 _ rfl, hq3⟩, rfl⟩
   refine for_rng (I := h9.objs.size) (n := 4) rfl rfl rfl rfl ?nIL (LawJ gh ra ga [.str r0 t0, .str r1 t1, .str r2 t2, .str r3 t3] nr gn (rho r0 r1 r2 r3) [.ref b0, .ref b1, .ref b2, .ref b3]) ?hJ ?step hIit (F9.ns.keeps hpu) ?h0 ?hR
   case nIL => obtain ⟨o, _, _, e, _⟩ := F9.ns; exact (neI _ o e).symm
   case h0 => exact ⟨rfl, rfl, hJ0.2.2⟩
   case hJ => intro i m h h' hn hit hj st; exact hj.aside (aside_rng hit) hIg fun b o n e => st b o (by simpa using n) e
   case hR =>
     rintro h' tk m' hn ⟨j1, j2, j3, j4, j5, j6, tb, j7, j8⟩
     have Fe := Fr.mk hn j3 F9.above
     have Ne := news_more (News.nil (h₀ := gh) (h := h')) j7 (news_nth N9 10 rfl).2.1 (news_nth N9 10 rfl).2.2
     clear F9 N9
     dsimp only
     k_steps
   case step =>
     intro i t m₁ g₀ g₁ tk₁ hi hj hn0 hn1 hsb hit1
     have hLg := get?_none_of_size F9.above
     obtain ⟨j1, j2, j3, j4, j5, j6, tb, j7, j8⟩ := hj.aside (aside_ns hn0) hLg (fun b o n e => hsb.extBut b o n e)
     obtain ⟨vb, hvb, b, c, td, qs, nq, rfl, bn, cn, be, ce, hqs⟩ := j6.get (i := i) (S := stS (rho r0 r1 r2 r3) i) (by rw [List.getElem?_map, List.getElem?_range hi]; rfl)
     have hmap : (fun y => if y = Str.ofString "size" then some (Value.int (i : Nat) t) else m₁ y) = (fun y => if y = Str.ofString "size" then some (Value.int (i : Nat) t) else if y = Str.ofString "grown" then some (Value.ref ga) else if y = Str.ofString "rows" then some (Value.ref ra) else m₁ y) := by
       funext y
       by_cases e1 : y = Str.ofString "size"
       · rw [if_pos e1, if_pos e1]
       · rw [if_neg e1, if_neg e1]
         by_cases e2 : y = Str.ofString "grown"
         · rw [e2, if_pos rfl, j2]
         · rw [if_neg e2]
           by_cases e3 : y = Str.ofString "rows"
           · rw [e3, if_pos rfl, j1]
           · rw [if_neg e3]
     rw [hmap] at hn1
     have Fg := Fr.mk hn1 j3 F9.above
     have Nr := news_seq Fg News.nil j4 (news_nth N9 9 rfl).2.2
     obtain ⟨cx, ox, Nx, hx⟩ := tab_pick Fg Nr j8
     have Ng := news_seq Fg (news_seq Fg (news_seq Fg (news_seq Fg (news_more (news_more Nx hit1 (by obtain ⟨o, _, _, e, _⟩ := F9.ns; exact (neI _ o e).symm) hIg) j7 (news_nth N9 10 rfl).2.1 (news_nth N9 10 rfl).2.2) j4 (news_nth N9 9 rfl).2.2) ce cn) be bn) j5 (news_nth N9 0 rfl).2.2
     obtain ⟨tl, Ntl, htl0, htl1⟩ := tups_pick Fg j6
     have Ng' := news_app Ng Ntl
     simp only [List.cons_append, List.nil_append] at Ng'
     clear F9 N9 Nr Nx hn1 Ng Ntl
     show wpAny _ _ _ _ _ _
     k_fold
     iterate 6 (first | (k_unfold; (try dsimp only)) | (k_end; kc_close) | walk1 | (dsimp only; walk1) | (leave1; walk_say "STEP leave1"; (try dsimp only)))
     refine subscriptTail_builtin (T := "list") ⟨_, j5, rfl⟩ F.slot_list_getitem.lookup (wpAny_getItem_list ⟨_, j5, rfl, _, rfl⟩ (by omega) (by omega) (x := .ref b) (by simpa using hvb) ?_)
     iterate 20 (first | (k_unfold; (try dsimp only)) | (k_end; kc_close) | walk1 | (dsimp only; walk1) | (leave1; walk_say "STEP leave1"; (try dsimp only)))
     rename News _ _ _ _ => N10
     rename Fr _ _ _ _ => F10
     rename_i hA10 hB10 h10
     rw [slice_ahead r0 r1 r2 r3 t0 t1 t2 t3 hi] at N10
     have hρ := rho_all (P := GoodRow) g0 g1 g2 g3
     have hbd := stS_bounds (fun k => (hρ k).1) i
     have hql : qs.length = (stS (rho r0 r1 r2 r3) i).1.length := by rw [← hqs, List.length_map]
     have h4 : 4 ^ i ≤ 64 := Nat.le_trans (Nat.pow_le_pow_right (by decide) (show i ≤ 3 by omega)) (by decide)
     have hqx : ∀ q ∈ qs, q.1 ∈ (stS (rho r0 r1 r2 r3) i).1 := fun q h => by rw [← hqs]; exact List.mem_map_of_mem h
     have ha10 := news_nth N10 0 rfl
     have hc10 := news_nth N10 3 rfl
     dsimp only at F10 N10 ha10 hc10 ⊢
     refine map_comp (T := c) (ts := strValues qs) (G := ReadG h10) (cl := []) rfl rfl (by decide) rfl (by decide) rfl (fun _ => rfl) (wpAny_Name (wpAny_loadName_local rfl rfl F10.ns rfl ⟨rfl, rfl⟩) (by decide)) ⟨_, hc10.1, rfl, _, rfl⟩ (by simp [strValues]; omega) ?helt ?hQ
     case helt =>
       intro C v s₃ m₃ hv hn hm hk
       obtain ⟨x, tx, rfl, hx⟩ := mem_strValues hv
       have hxl := hbd.2.1 _ (hqx _ hx)
       dsimp only at hxl hk
       iterate 8 (first | (k_unfold; (try dsimp only)) | (k_end; kc_close) | walk1 | (dsimp only; walk1) | (leave1; walk_say "STEP leave1"; (try dsimp only)))
       refine got_call (c_read (G.keeps fun b o e => hk b o (F10.keep b o e)) (by show callerA.depth + 1 < 900; decide) (by omega)) ?_
       rintro v h₇ tk₇ hk₇ ⟨a, ps, rfl, r1, r2, r3⟩
       refine ⟨⟨hk, fun x' t' e => ?_⟩, ⟨_, _, rfl, hk₇⟩⟩
       cases e
       exact ⟨a, ps, rfl, r1, r2, r3⟩
     case hQ =>
       intro D nD h₁₁ tk₁₁ zs hk₁₁ hDn hDe hP
       obtain ⟨es, rfl, hel, Ne, hes⟩ := reads_of (reads_paired F10 hP) fun q hq => plain_read hρ i _ (hqx q hq)
       have F11 := fr_stays F10 hk₁₁
       have N11 := news_app (news_new F10 N10 hk₁₁ hDn hDe) Ne
       simp only [List.cons_append, List.nil_append] at N11
       clear F10 N10 Ne hP
       iterate 12 (first | (k_unfold; (try dsimp only)) | (k_end; kc_close) | walk1 | (dsimp only; walk1) | (leave1; walk_say "STEP leave1"; (try dsimp only)))
       rename News _ _ _ _ => N12
       rename Fr _ _ _ _ => F12
       rename_i hX12 h12 _
       refine ⟨(G.keeps F12.keep).X, ?_⟩
       have n92 := news_nth N12 7 rfl
       have nAh := news_nth N12 2 rfl
       have nCx := news_nth N12 9 rfl
       dsimp only at n92 nAh nCx
       have hT12 : TabIs (h12.hide 92) tb := tab_hide n92.1 (hx h12 F12.keep nCx.1)
       have hK12 : gh.StaysIn (h12.hide 92) := fun b o e => (Heap.hide_ne _ (by rintro rfl; rw [n92.2.2] at e; cases e)).trans (F12.keep b o e)
       have hTl : ((rowsL r0 r1 r2 r3 t0 t1 t2 t3).take (i + 1)).length = i + 1 := by simp [rowsL]; omega
       refine gotT_call (c_count (G.keeps hK12) n92.1 hT12 (by decide) ⟨_, nAh.1, rfl, _, rfl⟩ (by omega) (by omega)) ?_
       rintro v h₁₃ tk₁₃ hk₁₃ ⟨tb', e92', hT'⟩ ⟨tc, rfl⟩
       rw [rows_ahead _ _ _ _ _ _ _ _ hi, ← plain_len hρ i hi]
       dsimp only at hk₁₃
       have F13 := fr_but F12 n92.2.2 n92.2.1 hk₁₃
       have N13 := news_swap (pre := [_, _, _, _, _, _, _]) N12 (by simp) (by simp) (fun p hp => by rcases List.mem_append.mp hp with hp | hp; exact htl0 p hp; rw [(hes p hp).1]; simp) hk₁₃ e92'
       simp only [List.cons_append, List.nil_append] at N13
       clear F12 N12
       have nX := news_nth N13 0 rfl
       obtain ⟨cy, oy, Ny, hy⟩ := tab_pick F13 (news_more News.nil nX.1 nX.2.1 nX.2.2) hT'
       have nY := Ny _ (List.mem_singleton.mpr rfl)
       have M13 := news_more N13 nY.1 nY.2.1 nY.2.2
       refine mul_one F13 M13 nX.1 (by omega) ?_
       intro h14 F14 N14
       refine ne_reads (es := es) (ps := (rowsL r0 r1 r2 r3 t0 t1 t2 t3).take (i + 1)) ⟨_, (news_nth N14 3 rfl).1, rfl, _, rfl⟩ ⟨_, (news_nth N14 0 rfl).1, rfl, _, rfl⟩ (by rw [hel, hql]) ⟨_, (news_nth N14 4 rfl).1, rfl, _, rfl⟩ (fun p hp => ?hes) (by show callerA.units + 3 + 1 < cLine; decide) ?_
       case hes =>
         obtain ⟨pc, qs', n', pd, pq⟩ := hes p hp
         exact ⟨qs', ⟨_, (N14 p (by simp [hp])).1, pc, _, pd⟩, by rw [pq, rows_ahead _ _ _ _ _ _ _ _ hi]⟩
       have nZ := news_nth N14 1 rfl
       have Nt := news_sub N14 (es := tl) (fun p hp => by simp [hp])
       have N15 := news_app (news_more (news_sub N14 (es := [_, _, _, _, _, _, _]) (fun p hp => List.mem_of_mem_take (i := 7) (l := List.drop 4 _) hp |> List.mem_of_mem_drop)) nZ.1 nZ.2.1 nZ.2.2) Nt
       simp only [List.cons_append, List.nil_append] at N15
       clear N13 M13 N14 F13 Nt Ny nX nY nZ hel hes hDe
       dsimp only
       iterate 6 (first | (k_unfold; (try dsimp only)) | (k_end; kc_close) | walk1 | (dsimp only; walk1) | (leave1; walk_say "STEP leave1"; (try dsimp only)))
       have nC := news_nth N15 4 rfl
       refine map_comp (T := c) (ts := strValues qs) (G := FixG) (cl := []) rfl rfl (by decide) rfl (by decide) rfl (fun _ => rfl) (wpAny_Name (wpAny_loadName_local rfl rfl F14.ns rfl ⟨rfl, rfl⟩) (by decide)) ⟨_, nC.1, rfl, _, rfl⟩ (by simp [strValues]; omega) ?helt2 ?hQ2
       case helt2 =>
         intro C v s₃ m₃ hv hn hm hk
         obtain ⟨x, tx, rfl, hx⟩ := mem_strValues hv
         have hxl := hbd.2.1 _ (hqx _ hx)
         dsimp only at hxl hk
         iterate 8 (first | (k_unfold; (try dsimp only)) | (k_end; kc_close) | walk1 | (dsimp only; walk1) | (leave1; walk_say "STEP leave1"; (try dsimp only)))
         refine got_call (c_fix (G.keeps fun b o e => hk b o (F14.keep b o e)) (by show callerA.depth + 1 < 900; decide) (by omega)) ?_
         rintro v h₇ tk₇ hk₇ ⟨tf, rfl⟩
         refine ⟨fun x' t' e => ?_, ⟨_, _, rfl, hk₇⟩⟩
         cases e
         exact ⟨tf, rfl⟩
       case hQ2 =>
         intro D2 nD2 h16 tk16 zs hk16 hDn2 hDe2 hP2
         obtain ⟨fs, rfl, hfl, hfe⟩ := fixes_of (paired_mono (fun v y q => by obtain ⟨_, _, _, g, _⟩ := q; exact g) hP2) fun q hq => plain_fix hρ i _ (hqx q hq)
         have F16 := fr_stays F14 hk16
         have N16 := news_new F14 N15 hk16 hDn2 hDe2
         clear F14 N15 hP2 nC
         dsimp only at F16 N16 ⊢
         iterate 10 (first | (k_unfold; (try dsimp only)) | (k_end; kc_close) | walk1 | (dsimp only; walk1) | (leave1; walk_say "STEP leave1"; (try dsimp only)))
         have nA := news_nth N16 2 rfl
         refine join_list (s := _) ⟨_, nA.1, rfl, _, rfl⟩ (strsAre_of _) (rows_sum r0 r1 r2 r3 t0 t1 t2 t3 g0.1 g1.1 g2.1 g3.1 hi) ?_
         intro tj kj
         rw [join_is, rows_ahead _ _ _ _ _ _ _ _ hi]
         have hjn : Str.join (Str.ofString "\r\n") (List.map (rho r0 r1 r2 r3) (List.range (i + 1))) = Str.join crlfS (List.map (rho r0 r1 r2 r3) (List.range (i + 1))) := rfl
         rw [hjn]
         generalize hjy : Str.join crlfS (List.map (rho r0 r1 r2 r3) (List.range (i + 1))) = jy at hfe ⊢
         clear hjn
         dsimp only
         iterate 8 (first | (k_unfold; (try dsimp only)) | (k_end; kc_close) | walk1 | (dsimp only; walk1) | (leave1; walk_say "STEP leave1"; (try dsimp only)))
         rename News _ _ _ _ => N17
         rename Fr _ _ _ _ => F17
         have hsz17 : (strValues qs).toArray.size = qs.length := by simp [strValues]
         refine PySem.Calls.call_len_list (items := (strValues qs).toArray) ⟨_, (news_nth N17 6 rfl).1, rfl, _, rfl⟩ (by rw [hsz17]; omega) ?_
         refine mul_one F17 N17 (news_nth N17 0 rfl).1 (by rw [hsz17]; omega) ?_
         intro h18 F18 N18
         clear F17 N17
         refine ne_fixes (fs := fs) ⟨_, (news_nth N18 2 rfl).1, rfl, _, rfl⟩ ⟨_, (news_nth N18 0 rfl).1, rfl, _, rfl⟩ (by rw [hsz17, hfl]) hfe (by show callerA.units + 3 < cLine; decide) ?_
         dsimp only
         iterate 4 (first | (k_unfold; (try dsimp only)) | (k_end; kc_close) | walk1 | (dsimp only; walk1) | (leave1; walk_say "STEP leave1"; (try dsimp only)))
         refine wpAny_execs_nil ?_
         show TurnR _ _ _ _ _ _ _ _
         refine ⟨rfl, h18, _, _, rfl, F18.ns, (news_nth N18 10 rfl).1, rfl, rfl, F18.keep, (news_nth N18 8 rfl).1, (news_nth N18 5 rfl).1, htl1 h18 fun p hp => (N18 p (by simp [hp])).1, tb', (news_nth N18 9 rfl).1, hy h18 F18.keep (news_nth N18 3 rfl).1⟩)
end Mine
end
theorem PySem.Challenge.cw_nb0035_01_holds : PySem.Challenge.rw_nb0035_01.Holds :=
  Mine.t
