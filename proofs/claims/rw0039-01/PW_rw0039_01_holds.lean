import PyProof.Rows.All
import Wide.All
import OpenK.AllK
import Wide.FinOn
import PySem.Challenge.RW_rw0039_01
set_option Elab.async false
set_option linter.all false
section
/-! part Hd -/
open PySem PySem.W PyProof.Rows
set_option maxRecDepth 100000
set_option maxHeartbeats 8000000
namespace Mine
open_top hd for PySem.Challenge.rw_rw0039_01
end Mine
end
section
/-! part Rx -/
open PySem PySem.W PyProof.Rows PySem.Spec PySem.Calls
set_option maxRecDepth 100000
namespace Mine
open PySem.Sre

def code : Array Nat := #[14,8,1,2,4294967295,1,1,46,0,16,46,24,9,1,4294967295,13,4,8,0,0,1,6,5,1]

def endsOk (r : List Nat) : Bool := match r with
  | [] => true
  | [c] => c == 10
  | _ => false
def digitRun : List Nat → Nat
  | [] => 0
  | c :: r => if isDigit c then digitRun r + 1 else 0
def hitAt (l : List Nat) : Bool := match l with
  | [] => false
  | c :: r => c == 46 && (decide (0 < digitRun r) && endsOk (r.drop (digitRun r)))
def ipv4L : List Nat → Bool
  | [] => false
  | c :: r => hitAt (c :: r) || ipv4L r

abbrev topF (s : Nat) (o : Bool) : Sre.Frame := { wait := .nextStart, pc := 9, pos := s, outermost := o }
abbrev gbF (pos cnt : Nat) (o : Bool) : Sre.Frame := { wait := .giveBack, pc := 11, pos := pos, outermost := o, count := (cnt : Int) }

/-- the machine's state: what turns in it -/
def St (text : Array Nat) (s pc pos handed : Nat) (o : Bool) (frames : List Sre.Frame) (wt : Nat) (ans : Option Bool) (seen : Sre.Seen) : Sre.M :=
  { code := code, text := text, lim := text.size, start := s, lastStart := text.size, pc := pc, pos := pos, handed := handed, outermost := o, marks := #[], frames := frames, weight := wt, answer := ans, seen := seen }

theorem runFor_succ (n : Nat) (m : Sre.M) : m.runFor (n + 1) = m.step.runFor n := by
  show (if m.outcome.isSome then m else M.runFor n m.step) = _
  by_cases h : m.outcome.isSome = true
  · rw [if_pos h]
    have hs : m.step = m := by unfold M.step; rw [if_pos h]
    rw [hs]
    cases n with
    | zero => rfl
    | succ n => show m = (if m.outcome.isSome then m else M.runFor n m.step); rw [if_pos h]
  · rw [if_neg h]
theorem runFor_add (a b : Nat) (m : Sre.M) : m.runFor (a + b) = (m.runFor a).runFor b := by
  induction a generalizing m with
  | zero => rw [Nat.zero_add]; rfl
  | succ a ih => rw [Nat.succ_add, runFor_succ, ih, runFor_succ]
theorem run_step {m m' x : Sre.M} {n : Nat} (e : m.step = m') (h : m'.runFor n = x) : m.runFor (n + 1) = x := by rw [runFor_succ, e]; exact h
theorem run_trans {m m' x : Sre.M} {a b : Nat} (e : m.runFor a = m') (h : m'.runFor b = x) : m.runFor (a + b) = x := by rw [runFor_add, e]; exact h
theorem runFor_done (n : Nat) (m : Sre.M) (h : m.outcome.isSome = true) : m.runFor n = m := by
  cases n with
  | zero => rfl
  | succ n => show (if m.outcome.isSome then m else M.runFor n m.step) = m; rw [if_pos h]

section
variable {text : Array Nat} {s pc pos handed : Nat} {o : Bool} {frames : List Sre.Frame} {wt : Nat} {seen : Sre.Seen}

theorem step_lit_end (h : text.size ≤ pos) : ∃ seen', (St text s 9 pos handed o frames wt none seen).step = St text s 9 pos handed o frames wt (some false) seen' := by
  refine ⟨seen.add 16, ?_⟩
  have e1 : ops[(16 : Nat)]? = some Op.LITERAL := rfl
  simp [M.step, St, M.exec, M.word, code, e1, M.say, h]
theorem step_lit (h : pos < text.size) : ∃ seen', (St text s 9 pos handed o frames wt none seen).step = (if text.getD pos 0 = 46 then St text s 11 (pos + 1) handed o frames wt none seen' else St text s 9 pos handed o frames wt (some false) seen') := by
  refine ⟨seen.add 16, ?_⟩
  have e1 : ops[(16 : Nat)]? = some Op.LITERAL := rfl
  have h' : ¬ text.size ≤ pos := Nat.not_le.mpr h
  have hd : text.getD pos 0 = text[pos] := by simp [h]
  by_cases hc : text[pos] = 46
  · simp [M.step, St, M.exec, M.word, code, e1, M.say, h', accepts, hd, hc, itemWidth]
  · have hb : (text[pos] == 46) = false := by simpa using hc
    simp [M.step, St, M.exec, M.word, code, e1, M.say, h', accepts, hd, hc, hb]

theorem acc15 (c : Nat) (seen : Sre.Seen) : accepts code 15 c seen = (if isDigit c = true then .ok (true, (seen.add 8).add 55) else .ok (false, ((seen.add 8).add 55).add 0)) := by
  cases h : isDigit c with
  | true =>
    have : accepts code 15 c seen = (if (isDigit c != false) = true then .ok (true, (seen.add 8).add 55) else .ok (false, ((seen.add 8).add 55).add 0)) := by with_unfolding_all rfl
    rw [this, h]; rfl
  | false =>
    have : accepts code 15 c seen = (if (isDigit c != false) = true then .ok (true, (seen.add 8).add 55) else .ok (false, ((seen.add 8).add 55).add 0)) := by with_unfolding_all rfl
    rw [this, h]; rfl
theorem run_unf (c : Nat) (n p found : Nat) (seen : Sre.Seen) : Sre.run code text 15 (n + 1) p found seen = (if isDigit (text.getD p 0) = true then Sre.run code text 15 n (p + 1) (found + 1) ((seen.add 8).add 55) else .ok (found, ((seen.add 8).add 55).add 0)) := by
  have : Sre.run code text 15 (n + 1) p found seen = (do
    let (yes, seen) ← accepts code 15 (text.getD p 0) seen
    if yes then Sre.run code text 15 n (p + 1) (found + 1) seen else pure (found, seen)) := rfl
  rw [this, acc15]
  cases h : isDigit (text.getD p 0) <;> rfl
theorem run_digits : ∀ (n p found : Nat) (seen : Sre.Seen), ∃ seen', Sre.run code text 15 n p found seen = .ok (found + min n (digitRun (text.toList.drop p)), seen')
  | 0, p, found, seen => ⟨seen, by simp [Sre.run]⟩
  | n + 1, p, found, seen => by
    rw [run_unf 0]
    by_cases hp : p < text.size
    · have hd : text.toList.drop p = text[p] :: text.toList.drop (p + 1) := by
        rw [List.drop_eq_getElem_cons (by simpa using hp)]; simp
      have hg : text.getD p 0 = text[p] := by simp [hp]
      rw [hg]
      by_cases hb : isDigit text[p] = true
      · obtain ⟨seen', ih⟩ := run_digits n (p + 1) (found + 1) ((seen.add 8).add 55)
        refine ⟨seen', ?_⟩
        rw [hd, digitRun, if_pos hb, if_pos hb, ih]
        congr 2; omega
      · refine ⟨((seen.add 8).add 55).add 0, ?_⟩
        rw [hd, digitRun, if_neg hb, if_neg hb]
        simp
    · have hd : text.toList.drop p = [] := List.drop_eq_nil_of_le (by simpa using hp)
      have hg : text.getD p 0 = 0 := by simp [hp]
      refine ⟨((seen.add 8).add 55).add 0, ?_⟩
      rw [hd, hg, if_neg (by decide)]
      simp [digitRun]

theorem digitRun_le : ∀ l : List Nat, digitRun l ≤ l.length
  | [] => Nat.le_refl _
  | c :: r => by
    unfold digitRun
    split
    · have := digitRun_le r; simp; omega
    · simp

theorem step_rep (hz : text.size ≤ 16777216) (hp : pos ≤ text.size) (hw : wt ≤ 3) : ∃ seen', (St text s 11 pos handed o frames wt none seen).step = (if digitRun (text.toList.drop pos) = 0 then St text s 11 pos handed o frames wt (some false) seen' else
    St text s 21 (pos + digitRun (text.toList.drop pos)) (pos + digitRun (text.toList.drop pos)) o (gbF (pos + digitRun (text.toList.drop pos)) (digitRun (text.toList.drop pos)) o :: frames) (wt + 1) none seen') := by
  have e1 : ops[(24 : Nat)]? = some Op.REPEAT_ONE := rfl
  have hle : digitRun (text.toList.drop pos) ≤ text.size - pos := by have := digitRun_le (text.toList.drop pos); simpa using this
  by_cases h0 : pos = text.size
  · have hd : text.toList.drop text.size = [] := List.drop_eq_nil_of_le (by simp)
    refine ⟨seen.add 24, ?_⟩
    subst h0
    rw [hd]
    simp [M.step, St, M.exec, M.word, code, e1, M.say, digitRun]
  · have hlt : pos < text.size := Nat.lt_of_le_of_ne hp h0
    have hroom : ((text.size : Int) - (pos : Int)).toNat = text.size - pos := by omega
    have hr : ¬ ((text.size : Int) - (pos : Int) < 1) := by omega
    obtain ⟨seen', hrun⟩ := run_digits (text := text) (min 4294967295 (text.size - pos)) pos 0 ((seen.add 24).add 13)
    have hn : 0 + min (min 4294967295 (text.size - pos)) (digitRun (text.toList.drop pos)) = digitRun (text.toList.drop pos) := by omega
    rw [hn] at hrun
    have hw' : ¬ (16777216 < wt + 1) := by omega
    refine ⟨seen', ?_⟩
    simp only [code] at hrun
    by_cases hd0 : digitRun (text.toList.drop pos) = 0
    · rw [hd0] at hrun
      simp [M.step, St, M.exec, M.word, code, e1, M.say, hr, hroom, hrun, hd0]
    · simp [M.step, St, M.exec, M.word, code, e1, M.say, hr, hroom, hrun, hd0, M.afterRun, M.keep, M.attempt, M.frame, hw']
def atEnd (text : Array Nat) (pos : Nat) : Bool := pos == text.size || (pos + 1 == text.size && text.getD pos 0 == 10)
theorem step_at : ∃ seen', (St text s 21 pos handed o frames wt none seen).step = (if atEnd text pos = true then St text s 23 pos handed o frames wt none seen' else St text s 21 pos handed o frames wt (some false) seen') := by
  have e1 : ops[(6 : Nat)]? = some Op.AT := rfl
  refine ⟨(seen.add 6).add 48, ?_⟩
  have e2 : (St text s 21 pos handed o frames wt none (seen.add 6)).isAt 5 = .ok (atEnd text pos) := rfl
  simp only [St, code] at e2
  cases h : atEnd text pos <;> rw [h] at e2 <;> simp [M.step, St, M.exec, M.word, code, e1, M.say, e2]
theorem step_succ : ∃ seen', (St text s 23 pos handed o frames wt none seen).step = St text s 23 pos pos o frames wt (some true) seen' := by
  have e1 : ops[(1 : Nat)]? = some Op.SUCCESS := rfl
  refine ⟨seen.add 1, ?_⟩
  simp [M.step, St, M.exec, M.word, code, e1, M.say]
theorem step_gb_yes {p1 c1 : Nat} {o1 : Bool} : (St text s pc pos handed o (gbF p1 c1 o1 :: frames) (wt + 1) (some true) seen).step = St text s 11 p1 handed o1 frames wt (some true) seen := by
  simp [M.step, St, M.resume, gbF, M.say, M.putBack]
theorem step_gb_no {p1 c1 : Nat} {o1 : Bool} (hw : wt ≤ 3) : (St text s pc pos handed o (gbF p1 c1 o1 :: frames) (wt + 1) (some false) seen).step =
    (if c1 ≤ 1 then St text s 11 p1 handed o1 frames wt (some false) seen else St text s 21 (p1 - 1) (p1 - 1) o1 (gbF (p1 - 1) (c1 - 1) o1 :: frames) (wt + 1) none seen) := by
  have hw' : ¬ (16777216 < wt + 1) := by omega
  by_cases h : c1 ≤ 1
  · have h' : (c1 : Int) - 1 < 1 := by omega
    simp [M.step, St, M.resume, gbF, M.say, M.putBack, h, h', M.word, code]
  · have h' : ¬ ((c1 : Int) - 1 < 1) := by omega
    have h2 : ((c1 : Int) - 1) = ((c1 - 1 : Nat) : Int) := by omega
    have h3 : (1 : Int) ≤ ((c1 - 1 : Nat) : Int) := by omega
    have h4 : ¬ (((c1 - 1 : Nat) : Int) < 1) := by omega
    simp [M.step, St, M.resume, gbF, M.say, M.putBack, h, M.word, code, M.afterRun, M.attempt, M.frame, hw', h2, h3, h4]
theorem step_top_yes {p1 : Nat} {o1 : Bool} : (St text s pc pos handed o [topF p1 o1] 1 (some true) seen).step = St text s 9 p1 handed o1 [] 0 (some true) seen := by
  simp [M.step, St, M.resume, topF, M.say, M.putBack]
theorem step_top_no {p1 : Nat} {o1 : Bool} : (St text s pc pos handed o [topF p1 o1] 1 (some false) seen).step =
    (if p1 < text.size then St text (p1 + 1) 9 (p1 + 1) (p1 + 1) false [topF (p1 + 1) false] 1 none seen else St text s 9 p1 handed o1 [] 0 (some false) seen) := by
  by_cases h : p1 < text.size
  · simp [M.step, St, M.resume, topF, M.say, M.putBack, h, M.attemptFrom, M.attemptAt, M.hasFirstSet, code, M.attempt]
  · simp [M.step, St, M.resume, topF, M.say, M.putBack, h]
theorem step_last (b : Bool) : ∃ m', (St text s pc pos handed o [] 0 (some b) seen).step = m' ∧ m'.outcome = some (if b then .matched else .failed) := by
  refine ⟨_, rfl, ?_⟩
  cases b <;> simp [M.step, St]

theorem gb_fail (hw : wt ≤ 3) : ∀ (c p pos handed : Nat) (o : Bool) (seen : Sre.Seen), c < p → (∀ i, p < i + c → i < p → i < text.size ∧ isDigit (text.getD i 0) = true) →
    ∃ n pos' handed' seen', n ≤ 2 * c + 1 ∧ (St text s 21 pos handed o (gbF p c o :: frames) (wt + 1) (some false) seen).runFor n = St text s 11 pos' handed' o frames wt (some false) seen'
  | 0, p, pos, handed, o, seen, _, _ => ⟨1, p, handed, seen, by omega, by rw [runFor_succ, step_gb_no hw, if_pos (by omega)]; rfl⟩
  | c + 1, p, pos, handed, o, seen, hcp, hdig => by
    by_cases hc : c + 1 ≤ 1
    · exact ⟨1, p, handed, seen, by omega, by rw [runFor_succ, step_gb_no hw, if_pos hc]; rfl⟩
    · obtain ⟨h1, h2⟩ := hdig (p - 1) (by omega) (by omega)
      have ha : atEnd text (p - 1) = false := by
        have n1 : (p - 1 == text.size) = false := by simp; omega
        have n2 : (text.getD (p - 1) 0 == 10) = false := by
          cases q : (text.getD (p - 1) 0 == 10) with
          | false => rfl
          | true => rw [beq_iff_eq.mp q] at h2; cases h2
        unfold atEnd; rw [n1, n2]; simp
      obtain ⟨seen1, e1⟩ := step_at (text := text) (s := s) (pos := p - 1) (handed := p - 1) (o := o) (frames := gbF (p - 1) c o :: frames) (wt := wt + 1) (seen := seen)
      rw [ha, if_neg Bool.false_ne_true] at e1
      obtain ⟨n, pos', handed', seen', hn, e2⟩ := gb_fail hw c (p - 1) (p - 1) (p - 1) o seen1 (by omega) (fun i hi1 hi2 => hdig i (by omega) (by omega))
      refine ⟨n + 2, pos', handed', seen', by omega, ?_⟩
      rw [show n + 2 = (n + 1) + 1 from rfl, runFor_succ, step_gb_no hw, if_neg hc, runFor_succ]
      rw [show c + 1 - 1 = c from rfl, e1, e2]

theorem digitRun_digit : ∀ (l : List Nat) (i : Nat), i < digitRun l → ∃ h : i < l.length, isDigit l[i] = true
  | [], i, h => absurd h (Nat.not_lt_zero _)
  | c :: r, i, h => by
    unfold digitRun at h
    by_cases hc : isDigit c = true
    · rw [if_pos hc] at h
      cases i with
      | zero => exact ⟨by simp, hc⟩
      | succ i =>
        obtain ⟨a, b⟩ := digitRun_digit r i (by omega)
        exact ⟨by simp; omega, by simpa using b⟩
    · rw [if_neg hc] at h; exact absurd h (Nat.not_lt_zero _)

abbrev S0 (text : Array Nat) (s : Nat) (o : Bool) (seen : Sre.Seen) : Sre.M := St text s 9 s s o [topF s o] 1 none seen
def Found (b : Bool) (m : Sre.M) : Prop := m.outcome = some (if b then .matched else .failed)

theorem endsOk_iff (text : Array Nat) (p : Nat) (hp : p ≤ text.size) : endsOk (text.toList.drop p) = atEnd text p := by
  unfold atEnd
  by_cases h : p = text.size
  · subst h
    rw [List.drop_eq_nil_of_le (by simp)]
    simp [endsOk]
  · have hlt : p < text.size := by omega
    have hd : text.toList.drop p = text[p] :: text.toList.drop (p + 1) := by
      rw [List.drop_eq_getElem_cons (by simpa using hlt)]; simp
    have hg : text.getD p 0 = text[p] := by simp [hlt]
    rw [hd, hg]
    by_cases h2 : p + 1 = text.size
    · rw [List.drop_eq_nil_of_le (by simp; omega)]
      simp [endsOk, h2, h]
    · have hlt2 : p + 1 < text.size := by omega
      have hd2 : text.toList.drop (p + 1) = text[p + 1] :: text.toList.drop (p + 1 + 1) := by
        rw [List.drop_eq_getElem_cons (by simpa using hlt2)]; simp
      rw [hd2]
      simp [endsOk, h, h2]

theorem attempt_s (hz : text.size ≤ 16777216) (hs : s ≤ text.size) (o : Bool) (seen : Sre.Seen) :
    if hitAt (text.toList.drop s) = true then ∃ n, n ≤ 2 * text.size + 20 ∧ Found true ((S0 text s o seen).runFor n)
    else if s < text.size then ∃ n seen', n ≤ 2 * text.size + 20 ∧ (S0 text s o seen).runFor n = S0 text (s + 1) false seen'
    else ∃ n, n ≤ 2 * text.size + 20 ∧ Found false ((S0 text s o seen).runFor n) := by
  by_cases hlt : s < text.size
  · have hd : text.toList.drop s = text[s] :: text.toList.drop (s + 1) := by
      rw [List.drop_eq_getElem_cons (by simpa using hlt)]; simp
    have hg : text.getD s 0 = text[s] := by simp [hlt]
    obtain ⟨seen1, e1⟩ := step_lit (text := text) (s := s) (pos := s) (handed := s) (o := o) (frames := [topF s o]) (wt := 1) (seen := seen) hlt
    rw [hg] at e1
    have fin : ∀ pc pos handed seen', ∃ seen'', (St text s pc pos handed o [topF s o] 1 (some false) seen').runFor 1 = S0 text (s + 1) false seen'' := fun pc pos handed seen' =>
      ⟨seen', by rw [runFor_succ, step_top_no, if_pos hlt]; rfl⟩
    rw [hd]
    by_cases h46 : text[s] = 46
    · rw [if_pos h46] at e1
      obtain ⟨seen2, e2⟩ := step_rep (text := text) (s := s) (pos := s + 1) (handed := s) (o := o) (frames := [topF s o]) (wt := 1) (seen := seen1) hz hlt (by omega)
      generalize hk : digitRun (text.toList.drop (s + 1)) = k at e2
      by_cases hk0 : k = 0
      · rw [if_pos hk0] at e2
        have hh : hitAt (text[s] :: text.toList.drop (s + 1)) = false := by simp [hitAt, hk, hk0]
        rw [hh, if_neg Bool.false_ne_true, if_pos hlt]
        obtain ⟨seen3, e3⟩ := fin 11 (s + 1) s seen2
        refine ⟨2 + 1, seen3, by omega, ?_⟩
        exact run_trans (run_step e1 (run_step e2 rfl)) e3
      · rw [if_neg hk0] at e2
        have hdl : (text.toList.drop (s + 1)).drop k = text.toList.drop (s + 1 + k) := by rw [List.drop_drop]
        have hkle : s + 1 + k ≤ text.size := by
          have := digitRun_le (text.toList.drop (s + 1)); rw [hk] at this; simp at this; omega
        obtain ⟨seen3, e3⟩ := step_at (text := text) (s := s) (pos := s + 1 + k) (handed := s + 1 + k) (o := o) (frames := gbF (s + 1 + k) k o :: [topF s o]) (wt := 2) (seen := seen2)
        have hh : hitAt (text[s] :: text.toList.drop (s + 1)) = atEnd text (s + 1 + k) := by
          rw [← endsOk_iff text _ hkle, ← hdl]
          simp [hitAt, hk, h46, Nat.pos_of_ne_zero hk0]
        rw [hh]
        cases ha : atEnd text (s + 1 + k) with
        | true =>
          rw [ha, if_pos rfl] at e3
          rw [if_pos rfl]
          obtain ⟨seen4, e4⟩ := step_succ (text := text) (s := s) (pos := s + 1 + k) (handed := s + 1 + k) (o := o) (frames := gbF (s + 1 + k) k o :: [topF s o]) (wt := 2) (seen := seen3)
          obtain ⟨m', e7, e8⟩ := step_last (text := text) (s := s) (pc := 9) (pos := s) (handed := s + 1 + k) (o := o) (seen := seen4) true
          refine ⟨7, by omega, ?_⟩
          rw [run_step e1 (run_step e2 (run_step e3 (run_step e4 (run_step step_gb_yes (run_step step_top_yes (run_step e7 rfl))))))]
          exact e8
        | false =>
          rw [ha, if_neg Bool.false_ne_true] at e3
          rw [if_neg Bool.false_ne_true, if_pos hlt]
          obtain ⟨n, pos', handed', seen4, hn, e4⟩ := gb_fail (text := text) (s := s) (frames := [topF s o]) (wt := 1) (by omega) k (s + 1 + k) (s + 1 + k) (s + 1 + k) o seen3 (by omega) (fun i h1 h2 => by
            obtain ⟨a, b⟩ := digitRun_digit (text.toList.drop (s + 1)) (i - (s + 1)) (by rw [hk]; omega)
            have hi : i < text.size := by omega
            refine ⟨hi, ?_⟩
            have : text.getD i 0 = text[i] := by simp [hi]
            rw [this]
            simp at b
            have q : s + 1 + (i - (s + 1)) = i := by omega
            simpa [q] using b)
          obtain ⟨seen5, e5⟩ := fin 11 pos' handed' seen4
          exact ⟨3 + (n + 1), seen5, by omega, run_trans (run_step e1 (run_step e2 (run_step e3 rfl))) (run_trans e4 e5)⟩
    · rw [if_neg h46] at e1
      have hb : (text[s] == 46) = false := by simpa using h46
      have hh : hitAt (text[s] :: text.toList.drop (s + 1)) = false := by simp [hitAt, hb]
      rw [hh, if_neg Bool.false_ne_true, if_pos hlt]
      obtain ⟨seen3, e3⟩ := fin 9 s s seen1
      refine ⟨1 + 1, seen3, by omega, ?_⟩
      exact run_trans (run_step e1 rfl) e3
  · have hd : text.toList.drop s = [] := List.drop_eq_nil_of_le (by simp; omega)
    rw [hd]
    rw [show hitAt [] = false from rfl, if_neg Bool.false_ne_true, if_neg hlt]
    obtain ⟨seen1, e1⟩ := step_lit_end (text := text) (s := s) (pos := s) (handed := s) (o := o) (frames := [topF s o]) (wt := 1) (seen := seen) (by omega)
    obtain ⟨m', e7, e8⟩ := step_last (text := text) (s := s) (pc := 9) (pos := s) (handed := s) (o := o) (seen := seen1) false
    refine ⟨3, by omega, ?_⟩
    rw [run_step e1 (run_step (step_top_no.trans (if_neg hlt)) (run_step e7 rfl))]
    exact e8

theorem ipv4_drop (text : Array Nat) (s : Nat) (h : s < text.size) : ipv4L (text.toList.drop s) = (hitAt (text.toList.drop s) || ipv4L (text.toList.drop (s + 1))) := by
  have hd : text.toList.drop s = text[s] :: text.toList.drop (s + 1) := by
    rw [List.drop_eq_getElem_cons (by simpa using h)]; simp
  rw [hd]; rfl

theorem search_s (hz : text.size ≤ 16777216) : ∀ (j s : Nat) (o : Bool) (seen : Sre.Seen), s + j = text.size → ∃ n, n ≤ (2 * text.size + 20) * (j + 1) ∧ Found (ipv4L (text.toList.drop s)) ((S0 text s o seen).runFor n)
  | 0, s, o, seen, hj => by
    have h := attempt_s (text := text) (s := s) hz (by omega) o seen
    have hd : text.toList.drop s = [] := List.drop_eq_nil_of_le (by simp; omega)
    rw [hd, show hitAt [] = false from rfl, if_neg Bool.false_ne_true, if_neg (by omega)] at h
    rw [hd]
    obtain ⟨n, hn, hf⟩ := h
    exact ⟨n, by omega, hf⟩
  | j + 1, s, o, seen, hj => by
    have h := attempt_s (text := text) (s := s) hz (by omega) o seen
    rw [ipv4_drop text s (by omega)]
    by_cases hh : hitAt (text.toList.drop s) = true
    · rw [if_pos hh] at h
      obtain ⟨n, hn, hf⟩ := h
      refine ⟨n, Nat.le_trans hn (Nat.le_mul_of_pos_right _ (by omega)), ?_⟩
      rw [hh, Bool.true_or]; exact hf
    · rw [if_neg hh, if_pos (by omega)] at h
      obtain ⟨n, seen', hn, e⟩ := h
      obtain ⟨n', hn', hf⟩ := search_s hz j (s + 1) false seen' (by omega)
      refine ⟨n + n', ?_, ?_⟩
      · rw [Nat.mul_succ (2 * text.size + 20) (j + 1)]; omega
      · have hb : hitAt (text.toList.drop s) = false := by simpa using hh
        rw [hb, Bool.false_or, runFor_add, e]; exact hf

theorem search_runs (text : Array Nat) (hz : text.size ≤ 16777216) : ∃ n, n ≤ 2 ^ 60 ∧ Found (ipv4L text.toList) ((Sre.forSearch code text 0 0 text.size false).runFor n) := by
  by_cases h2 : text.size < 2
  · refine ⟨1, by decide, ?_⟩
    have hi : ipv4L text.toList = false := by
      rcases hl : text.toList with _ | ⟨c, _ | ⟨d, r⟩⟩
      · rfl
      · simp [ipv4L, hitAt, digitRun]
      · have := congrArg List.length hl; simp at this; omega
    have e : Sre.forSearch code text 0 0 text.size false = ({ code := code, text := text, lim := text.size, start := 0, pc := 9, pos := 0, handed := 0, marks := #[], seen := ({} : Sre.Seen).add 14 } : Sre.M).say false := by
      have : Sre.forSearch code text 0 0 text.size false = (if decide (0 > text.size) || decide (text.size - 0 < 2) then ({ code := code, text := text, lim := text.size, start := 0, pc := 9, pos := 0, handed := 0, marks := #[], seen := ({} : Sre.Seen).add 14 } : Sre.M).say false else ({ code := code, text := text, lim := text.size, start := 0, pc := 9, pos := 0, handed := 0, marks := #[], seen := ({} : Sre.Seen).add 14, lastStart := text.size } : Sre.M).attemptFrom 0 true) := by with_unfolding_all rfl
      rw [this, if_pos (by simp; omega)]
    rw [e, hi, runFor_succ]
    simp [M.runFor, M.step, M.say, Found]
  · obtain ⟨n, hn, hf⟩ := search_s hz text.size 0 true (({} : Sre.Seen).add 14) (by omega)
    refine ⟨n, Nat.le_trans hn ?_, ?_⟩
    · calc (2 * text.size + 20) * (text.size + 1) ≤ 2 ^ 30 * 2 ^ 30 := Nat.mul_le_mul (by omega) (by omega)
        _ = 2 ^ 60 := by decide
    · have e : Sre.forSearch code text 0 0 text.size false = S0 text 0 true (({} : Sre.Seen).add 14) := by
        have : Sre.forSearch code text 0 0 text.size false = (if decide (0 > text.size) || decide (text.size - 0 < 2) then ({ code := code, text := text, lim := text.size, start := 0, pc := 9, pos := 0, handed := 0, marks := #[], seen := ({} : Sre.Seen).add 14 } : Sre.M).say false else ({ code := code, text := text, lim := text.size, start := 0, pc := 9, pos := 0, handed := 0, marks := #[], seen := ({} : Sre.Seen).add 14, lastStart := text.size } : Sre.M).attemptFrom 0 true) := by with_unfolding_all rfl
        rw [this, if_neg (by simp; omega)]
        simp [M.attemptFrom, M.hasFirstSet, M.attemptAt, M.attempt, S0, St, code]
      rw [e]; simpa using hf
end
end Mine
end
section
/-! part FwA -/
open PySem PySem.W PyProof.Rows PySem.Spec PySem.Calls
set_option maxRecDepth 100000
namespace Mine

abbrev Led := List (Addr × Obj)
abbrev Mp := PySem.Str → Option Value
def Off (nw J : Led) : Prop := ∀ q ∈ nw, ∀ p ∈ J, p.1 ≠ q.1
def Sub (I J : Led) : Prop := ∀ p ∈ I, p ∈ J
theorem Sub.rfl {I : Led} : Sub I I := fun _ h => h
theorem Sub.app {I J n : Led} (h : Sub I J) : Sub I (n ++ J) := fun p hp => List.mem_append.mpr (.inr (h p hp))
theorem Sub.cons {I J : Led} {q : Addr × Obj} (h : Sub I J) : Sub I (q :: J) := fun p hp => List.mem_cons.mpr (.inr (h p hp))
theorem Sub.trans {I J H : Led} (h : Sub I J) (k : Sub J H) : Sub I H := fun p hp => k p (h p hp)
theorem Sub.front {I J n : Led} (h : Sub I J) : Sub (n ++ I) (n ++ J) := fun p hp => (List.mem_append.mp hp).elim (fun h => List.mem_append.mpr (.inl h)) fun k => List.mem_append.mpr (.inr (h p k))
theorem Off.nil {J : Led} : Off [] J := fun _ h => nomatch h
theorem Off.app {n1 n2 J : Led} (h2 : Off n2 (n1 ++ J)) (h1 : Off n1 J) : Off (n2 ++ n1) J := fun q hq p hp =>
  (List.mem_append.mp hq).elim (fun h => h2 q h p (List.mem_append.mpr (.inr hp))) fun h => h1 q h p hp
theorem Off.sub {n J I : Led} (h : Off n J) (k : Sub I J) : Off n I := fun q hq p hp => h q hq p (k p hp)
theorem Off.one {q : Addr × Obj} {J : Led} (h : ∀ p ∈ J, p.1 < q.1) : Off [q] J := fun x hx p hp => by
  rw [List.mem_singleton.mp hx]; exact Nat.ne_of_lt (h p hp)
theorem Off.one' {q : Addr × Obj} {J : Led} (h : ∀ p ∈ J, p.1 ≠ q.1) : Off [q] J := fun x hx p hp => by
  rw [List.mem_singleton.mp hx]; exact h p hp
theorem sub_news {h₀ h : Heap} {L : Addr} {I J : Led} (N : News h₀ L h J) (s : Sub I J) : News h₀ L h I := fun p hp => N p (s p hp)
theorem drop_mid {h₀ h : Heap} {L : Addr} {n J : Led} (N : News h₀ L h (n ++ J)) : News h₀ L h J := fun p hp => N p (List.mem_append.mpr (.inr hp))

theorem dat_mono {I J : Led} (s : Sub I J) {v : Value} {d : Dat} (h : DatIn I v d) : DatIn J v d := DatIn.mono s h
theorem all_mono {I J : Led} (s : Sub I J) {v : List Value} {d : List Dat} (h : DatAll I v d) : DatAll J v d := DatAll.mono s h

/-- e's value is the datum d; what it makes is new -/
def Ex (prog : Program) (w : World) (A : Around) (env : Env) (h₀ : Heap) (L : Addr) (m : Mp) (I : Led) (e : PySem.Expr) (d : Dat) : Prop :=
  ∀ (J : Led) (s : Shared) (Q E : Value → Shared → Prop), Sub I J → Fr h₀ L s.heap m → News h₀ L s.heap J →
    (∀ v nw h' tk, Fr h₀ L h' m → News h₀ L h' (nw ++ J) → Off nw J → DatIn (nw ++ I) v d → Q v { s with heap := h', toks := tk }) →
    wpAny (model prog w) A (eval e env) Q E s
/-- e is true or not -/
def Tr (prog : Program) (w : World) (A : Around) (env : Env) (h₀ : Heap) (L : Addr) (m : Mp) (I : Led) (e : PySem.Expr) (b : Bool) : Prop :=
  ∀ (J : Led) (s : Shared) (Q : Bool → Shared → Prop) (E : Value → Shared → Prop), Sub I J → Fr h₀ L s.heap m → News h₀ L s.heap J →
    (∀ h' tk, Fr h₀ L h' m → News h₀ L h' J → Q b { s with heap := h', toks := tk }) →
    wpAny (model prog w) A (PySem.isTrue e env (eval e env)) Q E s

section
variable {prog : Program} {w : World} {A : Around} {env : Env} {h₀ : Heap} {L : Addr} {m : Mp} {I : Led} {e e1 e2 : PySem.Expr} {d : Dat} {pos : Pos}

theorem Ex.weak {I' : Led} (h : Ex prog w A env h₀ L m I e d) (s : Sub I I') : Ex prog w A env h₀ L m I' e d := by
  intro J st Q E hs F N k
  refine h J st Q E (s.trans hs) F N ?_
  intro v nw h' tk F' N' o D
  exact k v nw h' tk F' N' o (dat_mono s.front D)
theorem Tr.weak {I' : Led} {b : Bool} (h : Tr prog w A env h₀ L m I e b) (s : Sub I I') : Tr prog w A env h₀ L m I' e b := by
  intro J st Q E hs F N k
  exact h J st Q E (s.trans hs) F N k

/-- a scalar comes with nothing new -/
theorem Ex.sc {J : Led} {s : Shared} {Q E : Value → Shared → Prop} (h : Ex prog w A env h₀ L m I e d) (hs : Sub I J) (F : Fr h₀ L s.heap m) (N : News h₀ L s.heap J)
    (k : ∀ v h' tk, Fr h₀ L h' m → News h₀ L h' J → (∃ nw, DatIn (nw ++ I) v d) → Q v { s with heap := h', toks := tk }) : wpAny (model prog w) A (eval e env) Q E s :=
  h J s Q E hs F N fun v nw h' tk F' N' _ D => k v h' tk F' (drop_mid N') ⟨nw, D⟩
theorem Ex.str {J : Led} {s : Shared} {Q E : Value → Shared → Prop} {x : PySem.Str} (h : Ex prog w A env h₀ L m I e (.str x)) (hs : Sub I J) (F : Fr h₀ L s.heap m) (N : News h₀ L s.heap J)
    (k : ∀ t h' tk, Fr h₀ L h' m → News h₀ L h' J → Q (.str x t) { s with heap := h', toks := tk }) : wpAny (model prog w) A (eval e env) Q E s :=
  h.sc hs F N fun v h' tk F' N' ⟨nw, D⟩ => by cases D; exact k _ h' tk F' N'
theorem Ex.int {J : Led} {s : Shared} {Q E : Value → Shared → Prop} {x : Int} (h : Ex prog w A env h₀ L m I e (.int x)) (hs : Sub I J) (F : Fr h₀ L s.heap m) (N : News h₀ L s.heap J)
    (k : ∀ t h' tk, Fr h₀ L h' m → News h₀ L h' J → Q (.int x t) { s with heap := h', toks := tk }) : wpAny (model prog w) A (eval e env) Q E s :=
  h.sc hs F N fun v h' tk F' N' ⟨nw, D⟩ => by cases D; exact k _ h' tk F' N'
theorem Ex.bool {J : Led} {s : Shared} {Q E : Value → Shared → Prop} {x : Bool} (h : Ex prog w A env h₀ L m I e (.bool x)) (hs : Sub I J) (F : Fr h₀ L s.heap m) (N : News h₀ L s.heap J)
    (k : ∀ h' tk, Fr h₀ L h' m → News h₀ L h' J → Q (.bool x) { s with heap := h', toks := tk }) : wpAny (model prog w) A (eval e env) Q E s :=
  h.sc hs F N fun v h' tk F' N' ⟨nw, D⟩ => by cases D; exact k h' tk F' N'
theorem Ex.lst {J : Led} {s : Shared} {Q E : Value → Shared → Prop} {ds : List Dat} (h : Ex prog w A env h₀ L m I e (.list ds)) (hs : Sub I J) (F : Fr h₀ L s.heap m) (N : News h₀ L s.heap J)
    (k : ∀ a vs n nw h' tk, Fr h₀ L h' m → News h₀ L h' (nw ++ J) → Off nw J → (a, PySem.W.listOf vs.toArray n) ∈ nw ++ I → DatAll (nw ++ I) vs ds → Q (.ref a) { s with heap := h', toks := tk }) : wpAny (model prog w) A (eval e env) Q E s :=
  h J s Q E hs F N fun v nw h' tk F' N' o D => by cases D with | list hm r => exact k _ _ _ nw h' tk F' N' o hm r

theorem mem_up {nw I J : Led} {p : Addr × Obj} (hs : Sub I J) (h : p ∈ nw ++ I) : p ∈ nw ++ J := Sub.front hs p h

-- constants
theorem ex_str (x : PySem.Str) (k : Nat) : Ex prog w A env h₀ L m I (.Constant (.str x) k pos) (.str x) := by
  intro J s Q E hs F N h
  exact Calls.Constant_str (h _ [] _ _ F N Off.nil (.str _ _))
theorem ex_int (x : Int) (k : Nat) : Ex prog w A env h₀ L m I (.Constant (.int x) k pos) (.int x) := by
  intro J s Q E hs F N h
  exact wpAny_Constant_int (h _ [] _ _ F N Off.nil (.int _ _))

-- text and text
theorem ex_add_str {x y : PySem.Str} (h1 : Ex prog w A env h₀ L m I e1 (.str x)) (h2 : Ex prog w A env h₀ L m I e2 (.str y)) (hz : x.length + y.length ≤ sizeLine) :
    Ex prog w A env h₀ L m I (.BinOp e1 .Add e2 pos) (.str (x ++ y)) := by
  intro J s Q E hs F N h
  refine wpAny_BinOp (Ex.str h1 hs F N fun t h' tk F' N' => Ex.str h2 hs F' N' fun u h'' tk' F'' N'' => add_str (fun t' k => ?_) hz)
  exact h _ [] _ _ F'' N'' Off.nil (.str _ _)
theorem tr_eq_str {x y : PySem.Str} (h1 : Ex prog w A env h₀ L m I e1 (.str x)) (h2 : Ex prog w A env h₀ L m I e2 (.str y)) (hb : behindInMarks .Eq e2 = false := by rfl) :
    Tr prog w A env h₀ L m I (.Compare e1 [.Eq] [e2] pos) (x == y) := by
  intro J s Q E hs F N h
  refine wpAny_isTrue_Compare1 (Ex.str h1 hs F N fun t h' tk F' N' => Ex.str h2 hs F' N' fun u h'' tk' F'' N'' => eq_str (wpAny_truthy_bool ?_)) hb
  exact h _ _ F'' N''
theorem ex_eq_str {x y : PySem.Str} (h1 : Ex prog w A env h₀ L m I e1 (.str x)) (h2 : Ex prog w A env h₀ L m I e2 (.str y)) (hb : behindInMarks .Eq e2 = false := by rfl) :
    Ex prog w A env h₀ L m I (.Compare e1 [.Eq] [e2] pos) (.bool (x == y)) := by
  intro J s Q E hs F N h
  refine wpAny_Compare1 (Ex.str h1 hs F N fun t h' tk F' N' => Ex.str h2 hs F' N' fun u h'' tk' F'' N'' => eq_str ?_) hb
  exact h _ [] _ _ F'' N'' Off.nil (.bool _)
theorem tr_not {b : Bool} (h1 : Tr prog w A env h₀ L m I e b) : Tr prog w A env h₀ L m I (.UnaryOp .Not e pos) (!b) := by
  intro J s Q E hs F N h
  exact isTrue_not (h1 J s _ E hs F N fun h' tk F' N' => h _ _ F' N')
/-- a test that is a bool -/
theorem tr_bool {b : Bool} (h1 : Ex prog w A env h₀ L m I e (.bool b)) (he : ∀ whole, PySem.isTrue e env whole = (do let v ← whole; standAt e.pos; holding [v] (truthy v)) := by intro _; rfl) :
    Tr prog w A env h₀ L m I e b := by
  intro J s Q E hs F N h
  exact isTrue_plain (Ex.bool h1 hs F N fun h' tk F' N' => wpAny_truthy_bool (h _ _ F' N')) (he _)
end
end Mine
end
section
/-! part FwB -/
open PySem PySem.W PyProof.Rows PySem.Spec PySem.Calls
set_option maxRecDepth 100000
namespace Mine

inductive VarAt (env : Env) (L : Addr) (m : Mp) (J : Led) (x : PySem.Str) (v : Value) : Prop
  | loc (h1 : env.locals = L) (h2 : env.kindOf x = some .local) (h3 : m x = some v) : VarAt env L m J x v
  | cell (c : Addr) (o : Obj) (h1 : env.kindOf x = some .cell) (h2 : env.cells.lookup x = some c) (h3 : (c, o) ∈ J) (h4 : o.data = .cell (some v)) : VarAt env L m J x v
  | comp (oC : Obj) (m₂ : Mp) (h1 : env.kindOf x = some .local) (h2 : (env.locals, oC) ∈ J) (h3 : LCg.NsObj oC m₂) (h4 : m₂ x = some v) : VarAt env L m J x v

def Vars (env : Env) (L : Addr) (m : Mp) (J : Led) (ρ : List (PySem.Str × Dat)) : Prop := ∀ p ∈ ρ, ∃ v, VarAt env L m J p.1 v ∧ DatIn J v p.2

theorem VarAt.mono {env : Env} {L : Addr} {m : Mp} {J J' : Led} {x : PySem.Str} {v : Value} (h : VarAt env L m J x v) (s : Sub J J') : VarAt env L m J' x v := by
  cases h with
  | loc a b c => exact .loc a b c
  | cell c o a b d e => exact .cell c o a b (s _ d) e
  | comp oC m₂ a b c d => exact .comp oC m₂ a (s _ b) c d
theorem Vars.mono {env : Env} {L : Addr} {m : Mp} {J J' : Led} {ρ : List (PySem.Str × Dat)} (h : Vars env L m J ρ) (s : Sub J J') : Vars env L m J' ρ := fun p hp => by
  obtain ⟨v, a, b⟩ := h p hp
  exact ⟨v, a.mono s, dat_mono s b⟩
theorem Vars.nil {env : Env} {L : Addr} {m : Mp} {J : Led} : Vars env L m J [] := fun _ h => nomatch h
theorem Vars.cons {env : Env} {L : Addr} {m : Mp} {J : Led} {ρ : List (PySem.Str × Dat)} {x : PySem.Str} {v : Value} {d : Dat} (h : Vars env L m J ρ) (a : VarAt env L m J x v) (D : DatIn J v d) : Vars env L m J ((x, d) :: ρ) := fun p hp => by
  rcases List.mem_cons.mp hp with rfl | hp
  · exact ⟨v, a, D⟩
  · exact h p hp
theorem Vars.sub {env : Env} {L : Addr} {m : Mp} {J : Led} {ρ ρ' : List (PySem.Str × Dat)} (h : Vars env L m J ρ) (s : ∀ p ∈ ρ', p ∈ ρ) : Vars env L m J ρ' := fun p hp => h p (s p hp)
/-- a name stored -/
abbrev upd (m : Mp) (x : PySem.Str) (v : Value) : Mp := fun y => if y = x then some v else m y
theorem Vars.upd {env : Env} {L : Addr} {m : Mp} {J : Led} {ρ : List (PySem.Str × Dat)} {x : PySem.Str} {v : Value} (h : Vars env L m J ρ) (hx : ∀ p ∈ ρ, p.1 ≠ x) : Vars env L (upd m x v) J ρ := fun p hp => by
  obtain ⟨u, a, b⟩ := h p hp
  refine ⟨u, ?_, b⟩
  cases a with
  | loc a b c => exact .loc a b (by simp [Mine.upd, hx p hp, c])
  | cell c o a b d e => exact .cell c o a b d e
  | comp oC m₂ a b c d => exact .comp oC m₂ a b c d
theorem Vars.put {env : Env} {L : Addr} {m : Mp} {J nw : Led} {ρ : List (PySem.Str × Dat)} {x : PySem.Str} {v : Value} {d : Dat} (h : Vars env L m J ρ) (hl : env.locals = L) (hk : env.kindOf x = some .local) (hx : (ρ.all fun p => p.1 != x) = true) (D : DatIn (nw ++ J) v d) :
    Vars env L (Mine.upd m x v) (nw ++ J) ((x, d) :: ρ) := by
  refine Vars.cons ((h.mono (Sub.app Sub.rfl)).upd fun p hp => ?_) (.loc hl hk (by simp [Mine.upd])) D
  have := List.all_eq_true.mp hx p hp
  simpa using this

section
variable {prog : Program} {w : World} {A : Around} {env : Env} {h₀ : Heap} {L : Addr} {m : Mp} {I : Led} {e e1 e2 : PySem.Expr} {d : Dat} {pos : Pos} {ρ : List (PySem.Str × Dat)}

theorem ex_name {x : PySem.Str} (V : Vars env L m I ρ) (hx : (x, d) ∈ ρ) (hk : env.scope.kind = .function) (hd : (x == ("__debug__" : PySem.Str)) = false := by decide) : Ex prog w A env h₀ L m I (.Name x pos) d := by
  intro J s Q E hs F N h
  obtain ⟨v, a, D⟩ := V _ hx
  have k : Q v s := h v [] _ _ F N Off.nil D
  cases a with
  | loc a b c => subst a; exact wpAny_Name (wpAny_loadName_local hk b F.ns c k) hd
  | cell c o a b e f => exact wpAny_Name (wpAny_loadName_cell hk a b ⟨o, N.get (hs _ e), f⟩ k) hd
  | comp oC m₂ a b c e => exact wpAny_Name (wpAny_loadName_local hk a (c.ns (N.get (hs _ b))) e k) hd

/-- arguments, or a display's items -/
def Args (prog : Program) (w : World) (A : Around) (env : Env) (h₀ : Heap) (L : Addr) (m : Mp) (I : Led) (es : List PySem.Expr) (ds : List Dat) : Prop :=
  ∀ (pos : Pos) (J : Led) (s : Shared) (Q : List Value → Shared → Prop) (E : Value → Shared → Prop), Sub I J → Fr h₀ L s.heap m → News h₀ L s.heap J →
    (∀ vs nw h' tk, Fr h₀ L h' m → News h₀ L h' (nw ++ J) → Off nw J → DatAll (nw ++ I) vs ds → Q vs { s with heap := h', toks := tk }) →
    wpAny (model prog w) A (spliced (backTo pos (starEach es env))) Q E s
theorem args_nil' : Args prog w A env h₀ L m I [] [] := by
  intro pos J s Q E hs F N h
  exact spliced_none (h [] [] _ _ F N Off.nil .nil)
theorem args_cons' {es : List PySem.Expr} {ds : List Dat} (h1 : Ex prog w A env h₀ L m I e d) (h2 : Args prog w A env h₀ L m I es ds) (he : starEach (e :: es) env = (false, eval e env) :: starEach es env := by rfl) :
    Args prog w A env h₀ L m I (e :: es) (d :: ds) := by
  intro pos J s Q E hs F N h
  refine spliced_more (h1 J s _ E hs F N fun v nw h' tk F' N' o D => ?_) he
  refine h2 pos (nw ++ J) _ _ E (hs.app) F' N' fun vs nw2 h'' tk' F'' N'' o2 D2 => ?_
  refine h (v :: vs) (nw2 ++ nw) _ _ F'' (by rw [List.append_assoc]; exact N'') (o2.app o) ?_
  refine .cons (dat_mono (fun p hp => ?_) D) (all_mono (fun p hp => ?_) D2)
  · rw [List.append_assoc]; exact List.mem_append.mpr (.inr hp)
  · rw [List.append_assoc]; exact (List.mem_append.mp hp).elim (fun h => List.mem_append.mpr (.inl h)) fun h => List.mem_append.mpr (.inr (List.mem_append.mpr (.inr h)))
theorem args_star {es : List PySem.Expr} {ds xs : List Dat} {p : Pos} (h1 : Ex prog w A env h₀ L m I e (.list xs)) (h2 : Args prog w A env h₀ L m I es ds) (hz : xs.length ≤ sizeLine) (he : starEach (.Starred e p :: es) env = (true, eval e env) :: starEach es env := by rfl) :
    Args prog w A env h₀ L m I (.Starred e p :: es) (xs ++ ds) := by
  intro pos J s Q E hs F N h
  refine items_star (Ex.lst h1 hs F N fun a vs n nw h' tk F' N' o hm D => ?_) he
  have hl := D.length
  refine star_seq F' N' (mem_up hs hm) rfl rfl (.inl rfl) rfl (by simpa [hl] using hz) fun h2' F2 N2 => ?_
  refine h2 pos (nw ++ J) _ _ E (hs.app) F2 N2 fun ws nw2 h'' tk' F'' N'' o2 D2 => ?_
  refine h (vs ++ ws) (nw2 ++ nw) _ _ F'' (by rw [List.append_assoc]; exact N'') (o2.app o) ?_
  refine DatAll.append (all_mono (fun p hp => ?_) D) (all_mono (fun p hp => ?_) D2)
  · rw [List.append_assoc]; exact List.mem_append.mpr (.inr hp)
  · rw [List.append_assoc]; exact (List.mem_append.mp hp).elim (fun h => List.mem_append.mpr (.inl h)) fun h => List.mem_append.mpr (.inr (List.mem_append.mpr (.inr h)))

theorem ex_list {es : List PySem.Expr} {ds : List Dat} (h1 : Args prog w A env h₀ L m I es ds) (hz : ds.length ≤ sizeLine) : Ex prog w A env h₀ L m I (.List es pos) (.list ds) := by
  intro J s Q E hs F N h
  refine List_ (h1 pos J s _ E hs F N fun vs nw h' tk F' N' o D => ?_)
  refine newList_N F' N' (fun h2 F2 N2 => ?_) (by rw [D.length]; exact hz)
  refine h _ ((h'.objs.size, PySem.W.listOf vs.toArray 0) :: nw) _ _ F2 N2 ?_ ?_
  · exact Off.app (n2 := [_]) (Off.one' fun p hp => Nat.ne_of_lt (Heap.lt_size (N' p hp).1)) o
  · exact .list (List.mem_cons_self) (all_mono (fun p hp => List.mem_cons.mpr (.inr hp)) D)
theorem ex_tuple {es : List PySem.Expr} {k : Nat} {ds : List Dat} (h1 : Args prog w A env h₀ L m I es ds) (hz : ds.length ≤ sizeLine) : Ex prog w A env h₀ L m I (.Tuple es k pos) (.tuple ds) := by
  intro J s Q E hs F N h
  refine Tuple_ (h1 pos J s _ E hs F N fun vs nw h' tk F' N' o D => ?_)
  refine newTuple_N F' N' (fun h2 F2 N2 => ?_) (by rw [D.length]; exact hz)
  refine h _ ((h'.objs.size, { cls := .type "tuple", data := .seq vs.toArray }) :: nw) _ _ F2 N2 ?_ ?_
  · exact Off.app (n2 := [_]) (Off.one' fun p hp => Nat.ne_of_lt (Heap.lt_size (N' p hp).1)) o
  · exact .tuple (List.mem_cons_self) (all_mono (fun p hp => List.mem_cons.mpr (.inr hp)) D)

-- the methods of texts
section
variable {name : PySem.Str} {ap : Pos} {x y : PySem.Str} {pl : Sem Bool}
abbrev MethEq (o : PySem.Expr) (name : PySem.Str) (ap : Pos) (args : List PySem.Expr) (pos : Pos) (env : Env) (pl : Sem Bool) : Prop :=
  eval (.Call (.Attribute o name ap) args [] pos) env = (do
      let ov ← eval o env
      standAt ap.atName
      let (f, first) ← holding [ov] (getMethod ov name pl)
      callWith pos f first (backTo pos (starEach args env)) [])
theorem MethodCall' {o : PySem.Expr} {args : List PySem.Expr} {s : Shared} {Q E : Value → Shared → Prop} (he : MethEq o name ap args pos env pl)
    (h : wpAny (model prog w) A (eval o env) (fun ov s₁ => wpAny (model prog w) A (getMethod ov name pl) (fun fx s₂ => wpAny (model prog w) A (callWith pos fx.1 fx.2 (backTo pos (starEach args env)) []) Q E s₂) E s₁) E s) :
    wpAny (model prog w) A (eval (.Call (.Attribute o name ap) args [] pos) env) Q E s := MethodCall_ (pl := pl) h he
theorem ex_upper (h1 : Ex prog w A env h₀ L m I e (.str x)) (hz : Builtin.Str.tooLong (Txt.upper x).length = false) (he : MethEq e "upper" ap [] pos env pl := by rfl) : Ex prog w A env h₀ L m I (.Call (.Attribute e "upper" ap) [] [] pos) (.str (Txt.upper x)) := by
  intro J s Q E hs F N h
  refine MethodCall' he (Ex.str h1 hs F N fun t h' tk F' N' => ?_)
  with_reducible refine GM.upper ?_
  exact (callWith_method0 (SC.upper hz (h _ [] _ _ F' N' Off.nil (.str _ _))))
theorem ex_lower (h1 : Ex prog w A env h₀ L m I e (.str x)) (hz : Builtin.Str.tooLong (Txt.lower x).length = false) (he : MethEq e "lower" ap [] pos env pl := by rfl) : Ex prog w A env h₀ L m I (.Call (.Attribute e "lower" ap) [] [] pos) (.str (Txt.lower x)) := by
  intro J s Q E hs F N h
  refine MethodCall' he (Ex.str h1 hs F N fun t h' tk F' N' => ?_)
  with_reducible refine GM.lower ?_
  exact (callWith_method0 (SC.lower hz (h _ [] _ _ F' N' Off.nil (.str _ _))))

theorem meth1 {id : String} {t : Tok} {J : Led} {s : Shared} {Q E : Value → Shared → Prop} {first : List Value} (h2 : Ex prog w A env h₀ L m I e2 (.str y)) (hs : Sub I J) (F : Fr h₀ L s.heap m) (N : News h₀ L s.heap J)
    (k : ∀ u h' tk, Fr h₀ L h' m → News h₀ L h' J → wpAny (model prog w) A (call (.builtin id) (first ++ [.str y u])) Q E { s with heap := h', toks := tk })
    (he : starEach [e2] env = (false, eval e2 env) :: starEach [] env := by rfl) : wpAny (model prog w) A (callWith pos (.builtin id) first (backTo pos (starEach [e2] env)) []) Q E s :=
  callWith_method1 (spliced_more (Ex.str h2 hs F N fun u h' tk F' N' => spliced_none (k u h' tk F' N')) he) he
theorem ex_find (h1 : Ex prog w A env h₀ L m I e (.str x)) (h2 : Ex prog w A env h₀ L m I e2 (.str y)) (he : MethEq e "find" ap [e2] pos env pl := by rfl) (he2 : starEach [e2] env = (false, eval e2 env) :: starEach [] env := by rfl) :
    Ex prog w A env h₀ L m I (.Call (.Attribute e "find" ap) [e2] [] pos) (.int (Txt.find x y)) := by
  intro J s Q E hs F N h
  refine MethodCall' he (Ex.str h1 hs F N fun t h' tk F' N' => ?_)
  with_reducible refine GM.find ?_
  exact (meth1 (t := t) h2 hs F' N' (fun u h'' tk' F'' N'' => SC.find (h _ [] _ _ F'' N'' Off.nil (.int _ _))) he2)
theorem ex_rfind (h1 : Ex prog w A env h₀ L m I e (.str x)) (h2 : Ex prog w A env h₀ L m I e2 (.str y)) (he : MethEq e "rfind" ap [e2] pos env pl := by rfl) (he2 : starEach [e2] env = (false, eval e2 env) :: starEach [] env := by rfl) :
    Ex prog w A env h₀ L m I (.Call (.Attribute e "rfind" ap) [e2] [] pos) (.int (Txt.rfind x y)) := by
  intro J s Q E hs F N h
  refine MethodCall' he (Ex.str h1 hs F N fun t h' tk F' N' => ?_)
  with_reducible refine GM.rfind ?_
  exact (meth1 (t := t) h2 hs F' N' (fun u h'' tk' F'' N'' => SC.rfind (h _ [] _ _ F'' N'' Off.nil (.int _ _))) he2)
theorem ex_startswith (h1 : Ex prog w A env h₀ L m I e (.str x)) (h2 : Ex prog w A env h₀ L m I e2 (.str y)) (he : MethEq e "startswith" ap [e2] pos env pl := by rfl) (he2 : starEach [e2] env = (false, eval e2 env) :: starEach [] env := by rfl) :
    Ex prog w A env h₀ L m I (.Call (.Attribute e "startswith" ap) [e2] [] pos) (.bool (Txt.startswith x y)) := by
  intro J s Q E hs F N h
  refine MethodCall' he (Ex.str h1 hs F N fun t h' tk F' N' => ?_)
  with_reducible refine GM.startswith ?_
  exact (meth1 (t := t) h2 hs F' N' (fun u h'' tk' F'' N'' => SC.startswith (h _ [] _ _ F'' N'' Off.nil (.bool _))) he2)
theorem ex_endswith (h1 : Ex prog w A env h₀ L m I e (.str x)) (h2 : Ex prog w A env h₀ L m I e2 (.str y)) (he : MethEq e "endswith" ap [e2] pos env pl := by rfl) (he2 : starEach [e2] env = (false, eval e2 env) :: starEach [] env := by rfl) :
    Ex prog w A env h₀ L m I (.Call (.Attribute e "endswith" ap) [e2] [] pos) (.bool (Txt.endswith x y)) := by
  intro J s Q E hs F N h
  refine MethodCall' he (Ex.str h1 hs F N fun t h' tk F' N' => ?_)
  with_reducible refine GM.endswith ?_
  exact (meth1 (t := t) h2 hs F' N' (fun u h'' tk' F'' N'' => SC.endswith (h _ [] _ _ F'' N'' Off.nil (.bool _))) he2)

abbrev dstrs (l : List PySem.Str) : List Dat := l.map Dat.str
theorem dstrs_all {J : Led} : ∀ l : List (PySem.Str × Tok), DatAll J (strValues l) (dstrs (l.map (·.1)))
  | [] => .nil
  | (x, t) :: r => .cons (.str x t) (dstrs_all r)
theorem ex_split (h1 : Ex prog w A env h₀ L m I e (.str x)) (h2 : Ex prog w A env h₀ L m I e2 (.str y)) (hy : (y.length == 0) = false) (hz : x.length + 2 ≤ sizeLine) (he : MethEq e "split" ap [e2] pos env pl := by rfl) (he2 : starEach [e2] env = (false, eval e2 env) :: starEach [] env := by rfl) :
    Ex prog w A env h₀ L m I (.Call (.Attribute e "split" ap) [e2] [] pos) (.list (dstrs (Txt.split x y))) := by
  intro J s Q E hs F N h
  refine MethodCall' he (Ex.str h1 hs F N fun t h' tk F' N' => ?_)
  with_reducible refine GM.split ?_
  refine (meth1 (t := t) h2 hs F' N' (fun u h'' tk' F'' N'' => ?_) he2)
  refine splitN1 F'' N'' hy (fun l h3 k el F3 N3 => ?_) hz
  refine h _ [_] _ _ F3 N3 (Off.one' fun p hp => Nat.ne_of_lt (Heap.lt_size (N'' p hp).1)) ?_
  rw [← el]
  exact .list (List.mem_cons_self) (dstrs_all l)
theorem dstrs_of {J : Led} : ∀ {vs : List Value} {l : List PySem.Str}, DatAll J vs (dstrs l) → ∃ q : List (PySem.Str × Tok), vs = strValues q ∧ q.map (·.1) = l
  | _, [], h => by cases h; exact ⟨[], rfl, rfl⟩
  | _, x :: r, h => by
    cases h with
    | cons h k =>
      cases h with
      | str _ t =>
        obtain ⟨q, rfl, rfl⟩ := dstrs_of k
        exact ⟨(x, t) :: q, rfl, rfl⟩
theorem ex_join {l : List PySem.Str} (h1 : Ex prog w A env h₀ L m I e (.str x)) (h2 : Ex prog w A env h₀ L m I e2 (.list (dstrs l))) (hz : JoinOk x l = true) (he : MethEq e "join" ap [e2] pos env pl := by rfl) (he2 : starEach [e2] env = (false, eval e2 env) :: starEach [] env := by rfl) :
    Ex prog w A env h₀ L m I (.Call (.Attribute e "join" ap) [e2] [] pos) (.str (Txt.join x l)) := by
  intro J s Q E hs F N h
  refine MethodCall' he (Ex.str h1 hs F N fun t h' tk F' N' => ?_)
  with_reducible refine GM.join ?_
  refine (callWith_method1 (spliced_more (Ex.lst h2 hs F' N' fun a vs n nw h'' tk' F'' N'' o hm D => spliced_none ?_) he2) he2)
  obtain ⟨q, rfl, eq⟩ := dstrs_of D
  exact SC.join (News.isList N'' (mem_up hs hm)) eq hz fun t' k => h _ [] _ _ F'' (drop_mid N'') Off.nil (.str _ _)
end
end
end Mine
end
section
/-! part FwC -/
open PySem PySem.W PyProof.Rows PySem.Spec PySem.Calls PyProof.V
set_option maxRecDepth 100000
namespace Mine
section
variable {prog : Program} {w : World} {A : Around} {env : Env} {h₀ : Heap} {L : Addr} {m : Mp} {I : Led} {e e1 e2 e3 : PySem.Expr} {d : Dat} {pos : Pos} {ρ : List (PySem.Str × Dat)} {a b : Int} {x y : Bool}

theorem ex_add_int (h1 : Ex prog w A env h₀ L m I e1 (.int a)) (h2 : Ex prog w A env h₀ L m I e2 (.int b)) : Ex prog w A env h₀ L m I (.BinOp e1 .Add e2 pos) (.int (a + b)) := by
  intro J s Q E hs F N h
  refine wpAny_BinOp (Ex.int h1 hs F N fun t h' tk F' N' => Ex.int h2 hs F' N' fun u h'' tk' F'' N'' => add_int ?_)
  exact h _ [] _ _ F'' N'' Off.nil (.int _ _)
theorem ex_sub_int (h1 : Ex prog w A env h₀ L m I e1 (.int a)) (h2 : Ex prog w A env h₀ L m I e2 (.int b)) : Ex prog w A env h₀ L m I (.BinOp e1 .Sub e2 pos) (.int (a - b)) := by
  intro J s Q E hs F N h
  refine wpAny_BinOp (Ex.int h1 hs F N fun t h' tk F' N' => Ex.int h2 hs F' N' fun u h'' tk' F'' N'' => sub_int ?_)
  exact h _ [] _ _ F'' N'' Off.nil (.int _ _)
theorem ex_mul_int (h1 : Ex prog w A env h₀ L m I e1 (.int a)) (h2 : Ex prog w A env h₀ L m I e2 (.int b)) (hok : IntMulOk a b) : Ex prog w A env h₀ L m I (.BinOp e1 .Mult e2 pos) (.int (a * b)) := by
  intro J s Q E hs F N h
  refine wpAny_BinOp (Ex.int h1 hs F N fun t h' tk F' N' => Ex.int h2 hs F' N' fun u h'' tk' F'' N'' => mul_int ?_ hok)
  exact h _ [] _ _ F'' N'' Off.nil (.int _ _)
theorem ex_mod_int (h1 : Ex prog w A env h₀ L m I e1 (.int a)) (h2 : Ex prog w A env h₀ L m I e2 (.int b)) (hb : b ≠ 0) : Ex prog w A env h₀ L m I (.BinOp e1 .Mod e2 pos) (.int (a.fmod b)) := by
  intro J s Q E hs F N h
  refine wpAny_BinOp (Ex.int h1 hs F N fun t h' tk F' N' => Ex.int h2 hs F' N' fun u h'' tk' F'' N'' => mod_int' hb ?_)
  exact h _ [] _ _ F'' N'' Off.nil (.int _ _)
theorem ex_div_int (h1 : Ex prog w A env h₀ L m I e1 (.int a)) (h2 : Ex prog w A env h₀ L m I e2 (.int b)) (hb : b ≠ 0) (hp : Builtin.divisionGoesByPylong a b = false) : Ex prog w A env h₀ L m I (.BinOp e1 .FloorDiv e2 pos) (.int (a.fdiv b)) := by
  intro J s Q E hs F N h
  refine wpAny_BinOp (Ex.int h1 hs F N fun t h' tk F' N' => Ex.int h2 hs F' N' fun u h'' tk' F'' N'' => floordiv_int hb ?_ (.inl hp))
  exact h _ [] _ _ F'' N'' Off.nil (.int _ _)
theorem ex_neg_int (h1 : Ex prog w A env h₀ L m I e (.int a)) : Ex prog w A env h₀ L m I (.UnaryOp .USub e pos) (.int (-a)) := by
  intro J s Q E hs F N h
  refine wpAny_UnaryOp (Ex.int h1 hs F N fun t h' tk F' N' => neg_int ?_)
  exact h _ [] _ _ F' N' Off.nil (.int _ _)
theorem ex_mul_str {x : PySem.Str} (h1 : Ex prog w A env h₀ L m I e1 (.str x)) (h2 : Ex prog w A env h₀ L m I e2 (.int a)) (hok : MulOk x a) : Ex prog w A env h₀ L m I (.BinOp e1 .Mult e2 pos) (.str (Txt.mul x a)) := by
  intro J s Q E hs F N h
  refine wpAny_BinOp (Ex.str h1 hs F N fun t h' tk F' N' => Ex.int h2 hs F' N' fun u h'' tk' F'' N'' => SB.mul hok fun t' k => ?_)
  exact h _ [] _ _ F'' N'' Off.nil (.str _ _)

-- comparisons
theorem ex_eq_int (h1 : Ex prog w A env h₀ L m I e1 (.int a)) (h2 : Ex prog w A env h₀ L m I e2 (.int b)) (hb : behindInMarks .Eq e2 = false := by rfl) : Ex prog w A env h₀ L m I (.Compare e1 [.Eq] [e2] pos) (.bool (a == b)) := by
  intro J s Q E hs F N h
  refine wpAny_Compare1 (Ex.int h1 hs F N fun t h' tk F' N' => Ex.int h2 hs F' N' fun u h'' tk' F'' N'' => eq_int ?_) hb
  exact h _ [] _ _ F'' N'' Off.nil (.bool _)
theorem tr_eq_int (h1 : Ex prog w A env h₀ L m I e1 (.int a)) (h2 : Ex prog w A env h₀ L m I e2 (.int b)) (hb : behindInMarks .Eq e2 = false := by rfl) : Tr prog w A env h₀ L m I (.Compare e1 [.Eq] [e2] pos) (a == b) := by
  intro J s Q E hs F N h
  refine wpAny_isTrue_Compare1 (Ex.int h1 hs F N fun t h' tk F' N' => Ex.int h2 hs F' N' fun u h'' tk' F'' N'' => eq_int (wpAny_truthy_bool ?_)) hb
  exact h _ _ F'' N''
theorem tr_ge_int (h1 : Ex prog w A env h₀ L m I e1 (.int a)) (h2 : Ex prog w A env h₀ L m I e2 (.int b)) (hb : behindInMarks .GtE e2 = false := by rfl) : Tr prog w A env h₀ L m I (.Compare e1 [.GtE] [e2] pos) (decide (b ≤ a)) := by
  intro J s Q E hs F N h
  refine wpAny_isTrue_Compare1 (Ex.int h1 hs F N fun t h' tk F' N' => Ex.int h2 hs F' N' fun u h'' tk' F'' N'' => ge_int (wpAny_truthy_bool ?_)) hb
  exact h _ _ F'' N''
theorem ex_le_int (h1 : Ex prog w A env h₀ L m I e1 (.int a)) (h2 : Ex prog w A env h₀ L m I e2 (.int b)) (hb : behindInMarks .LtE e2 = false := by rfl) : Ex prog w A env h₀ L m I (.Compare e1 [.LtE] [e2] pos) (.bool (decide (a ≤ b))) := by
  intro J s Q E hs F N h
  refine wpAny_Compare1 (Ex.int h1 hs F N fun t h' tk F' N' => Ex.int h2 hs F' N' fun u h'' tk' F'' N'' => le_int ?_) hb
  exact h _ [] _ _ F'' N'' Off.nil (.bool _)
theorem tr_ne_str {x y : PySem.Str} (h1 : Ex prog w A env h₀ L m I e1 (.str x)) (h2 : Ex prog w A env h₀ L m I e2 (.str y)) (hb : behindInMarks .NotEq e2 = false := by rfl) :
    Tr prog w A env h₀ L m I (.Compare e1 [.NotEq] [e2] pos) (x != y) := by
  intro J s Q E hs F N h
  refine wpAny_isTrue_Compare1 (Ex.str h1 hs F N fun t h' tk F' N' => Ex.str h2 hs F' N' fun u h'' tk' F'' N'' => ne_str (wpAny_truthy_bool ?_)) hb
  exact h _ _ F'' N''

theorem two_lists {ds es : List Dat} {J : Led} {s : Shared} {E : Value → Shared → Prop} (h1 : Ex prog w A env h₀ L m I e1 (.list ds)) (h2 : Ex prog w A env h₀ L m I e2 (.list es)) (hs : Sub I J) (F : Fr h₀ L s.heap m) (N : News h₀ L s.heap J)
    {R : Value → Value → Shared → Prop}
    (k : ∀ a vs n a' vs' n' nw h' tk, Fr h₀ L h' m → News h₀ L h' (nw ++ J) → Off nw J → (a, PySem.W.listOf vs.toArray n) ∈ nw ++ I → DatAll (nw ++ I) vs ds → (a', PySem.W.listOf vs'.toArray n') ∈ nw ++ I → DatAll (nw ++ I) vs' es → R (.ref a) (.ref a') { s with heap := h', toks := tk }) :
    wpAny (model prog w) A (eval e1 env) (fun v s₁ => wpAny (model prog w) A (eval e2 env) (fun v' s₂ => R v v' s₂) E s₁) E s := by
  refine Ex.lst h1 hs F N fun a vs n nw h' tk F' N' o hm D => Ex.lst h2 (hs.app) F' N' fun a' vs' n' nw' h'' tk' F'' N'' o' hm' D' => ?_
  have up1 : Sub (nw ++ I) ((nw' ++ nw) ++ I) := fun p hp => by rw [List.append_assoc]; exact List.mem_append.mpr (.inr hp)
  have up2 : Sub (nw' ++ I) ((nw' ++ nw) ++ I) := fun p hp => by rw [List.append_assoc]; exact (List.mem_append.mp hp).elim (fun h => List.mem_append.mpr (.inl h)) fun h => List.mem_append.mpr (.inr (List.mem_append.mpr (.inr h)))
  exact k a vs n a' vs' n' (nw' ++ nw) h'' tk' F'' (by rw [List.append_assoc]; exact N'') (o'.app o) (up1 _ hm) (all_mono up1 D) (up2 _ hm') (all_mono up2 D')

theorem ex_add_list {ds es : List Dat} (h1 : Ex prog w A env h₀ L m I e1 (.list ds)) (h2 : Ex prog w A env h₀ L m I e2 (.list es)) (hz : ds.length + es.length ≤ sizeLine) : Ex prog w A env h₀ L m I (.BinOp e1 .Add e2 pos) (.list (ds ++ es)) := by
  intro J s Q E hs F N h
  refine wpAny_BinOp (two_lists (R := fun a b s₂ => wpAny (model prog w) A (binaryOp .Add a b) Q E s₂) h1 h2 hs F N fun a vs n a' vs' n' nw h' tk F' N' o hm D hm' D' => ?_)
  refine add_lists F' N' (News.isList N' (mem_up hs hm)) (News.isList N' (mem_up hs hm')) (fun h2 F2 N2 => ?_) (by rw [D.length, D'.length]; exact hz)
  refine h _ ((h'.objs.size, PySem.W.listOf (vs ++ vs').toArray 0) :: nw) _ _ F2 N2 (Off.app (n2 := [_]) (Off.one' fun p hp => Nat.ne_of_lt (Heap.lt_size (N' p hp).1)) o) ?_
  exact .list (List.mem_cons_self) (all_mono (fun p hp => List.mem_cons.mpr (.inr hp)) (D.append D'))

theorem dec_is {P : Prop} {t : Bool} (ht : t = true ↔ P) (inst : Decidable P) : @decide P inst = t := by
  cases inst with
  | isTrue h => exact (ht.mpr h).symm
  | isFalse h => cases t with
    | false => rfl
    | true => exact absurd (ht.mp rfl) h
def okd (ds : List Dat) : Prop := ∀ d ∈ ds, kqdOk 8 d = true
theorem tr_eq_list {ds es : List Dat} {t : Bool} (h1 : Ex prog w A env h₀ L m I e1 (.list ds)) (h2 : Ex prog w A env h₀ L m I e2 (.list es)) (ha : okd ds) (hb : okd es) (hu : A.units + 64 < cLine) (ht : t = true ↔ ds = es) (hb' : behindInMarks .Eq e2 = false := by rfl) :
    Tr prog w A env h₀ L m I (.Compare e1 [.Eq] [e2] pos) t := by
  intro J s Q E hs F N h
  refine wpAny_isTrue_Compare1 (two_lists (R := fun a b s₂ => wpAny (model prog w) A (compareOp .Eq a b) (fun c s₃ => wpAny (model prog w) A (truthy c) Q E s₃) E s₂) h1 h2 hs F N fun a vs n a' vs' n' nw h' tk F' N' o hm D hm' D' => ?_) hb'
  refine kqd_eq N' (mem_up hs hm) rfl rfl D (Sub.front hs) (mem_up hs hm') rfl rfl D' (Sub.front hs) ha hb hu (wpAny_truthy_bool ?_)
  rw [dec_is ht]
  exact h _ _ F' (drop_mid N')
theorem ex_eq_list {ds es : List Dat} {t : Bool} (h1 : Ex prog w A env h₀ L m I e1 (.list ds)) (h2 : Ex prog w A env h₀ L m I e2 (.list es)) (ha : okd ds) (hb : okd es) (hu : A.units + 64 < cLine) (ht : t = true ↔ ds = es) (hb' : behindInMarks .Eq e2 = false := by rfl) :
    Ex prog w A env h₀ L m I (.Compare e1 [.Eq] [e2] pos) (.bool t) := by
  intro J s Q E hs F N h
  refine wpAny_Compare1 (two_lists (R := fun a b s₂ => wpAny (model prog w) A (compareOp .Eq a b) Q E s₂) h1 h2 hs F N fun a vs n a' vs' n' nw h' tk F' N' o hm D hm' D' => ?_) hb'
  refine kqd_eq N' (mem_up hs hm) rfl rfl D (Sub.front hs) (mem_up hs hm') rfl rfl D' (Sub.front hs) ha hb hu ?_
  rw [dec_is ht]
  exact h _ [] _ _ F' (drop_mid N') Off.nil (.bool _)
theorem tr_ne_list {ds es : List Dat} {t : Bool} (h1 : Ex prog w A env h₀ L m I e1 (.list ds)) (h2 : Ex prog w A env h₀ L m I e2 (.list es)) (ha : okd ds) (hb : okd es) (hu : A.units + 64 < cLine) (ht : t = true ↔ ds = es) (hb' : behindInMarks .NotEq e2 = false := by rfl) :
    Tr prog w A env h₀ L m I (.Compare e1 [.NotEq] [e2] pos) (!t) := by
  intro J s Q E hs F N h
  refine wpAny_isTrue_Compare1 (two_lists (R := fun a b s₂ => wpAny (model prog w) A (compareOp .NotEq a b) (fun c s₃ => wpAny (model prog w) A (truthy c) Q E s₃) E s₂) h1 h2 hs F N fun a vs n a' vs' n' nw h' tk F' N' o hm D hm' D' => ?_) hb'
  refine kqd_ne N' (mem_up hs hm) rfl rfl D (Sub.front hs) (mem_up hs hm') rfl rfl D' (Sub.front hs) ha hb hu (wpAny_truthy_bool ?_)
  rw [dec_is ht]
  exact h _ _ F' (drop_mid N')
theorem dstr_inj {l r : List PySem.Str} : dstrs l = dstrs r ↔ l = r := List.map_inj_right fun a b h => Dat.str.inj h
theorem okd_strs {l : List PySem.Str} (h : ∀ x ∈ l, PyData.strOk x = true) : okd (dstrs l) := fun d hd => by
  obtain ⟨x, hx, rfl⟩ := List.mem_map.mp hd
  exact h x hx
theorem ex_in_ints {ns : List Int} (h1 : Ex prog w A env h₀ L m I e1 (.int a)) (h2 : Ex prog w A env h₀ L m I e2 (.list (ns.map .int))) (hu : A.units + 64 < cLine) (hb' : behindInMarks .In e2 = false := by rfl) :
    Ex prog w A env h₀ L m I (.Compare e1 [.In] [e2] pos) (.bool (decide (a ∈ ns))) := by
  intro J s Q E hs F N h
  refine wpAny_Compare1 (Ex.int h1 hs F N fun t h' tk F' N' => Ex.lst h2 hs F' N' fun c vs n nw h'' tk' F'' N'' o hm D => ?_) hb'
  refine kqd_isIn (n₂ := []) (d := .int a) N'' (mem_up hs hm) rfl rfl D (Sub.front hs) (.int a t) (fun _ h => nomatch h) (fun d hd => ?_) rfl hu ?_
  · obtain ⟨i, _, rfl⟩ := List.mem_map.mp hd; rfl
  · have key : Dat.int a ∈ ns.map Dat.int ↔ a ∈ ns := by
      constructor
      · intro h; obtain ⟨i, hi, e⟩ := List.mem_map.mp h; cases e; exact hi
      · intro h; exact List.mem_map.mpr ⟨a, h, rfl⟩
    rw [dec_is (decide_eq_true_iff.trans key.symm)]
    exact h _ [] _ _ F'' (drop_mid N'') Off.nil (.bool _)

-- lists of bools
abbrev dbools (l : List Bool) : List Dat := l.map Dat.bool
theorem bools_read {J : Led} {h : Heap} : ∀ {vs : List Value} {l : List Bool}, DatAll J vs (dbools l) → ∃ as, ReadsAll h vs (l.map PyData.bool) as
  | _, [], h => by cases h; exact ⟨_, ReadsAll.nil⟩
  | _, x :: r, h => by
    cases h with
    | cons h k =>
      cases h
      obtain ⟨as, q⟩ := bools_read k
      exact ⟨_, ReadsAll.cons (Reads.bool x) q⟩
theorem bools_eqv : ∀ (l r : List Bool), PyData.eqvAll (l.map PyData.bool) (r.map PyData.bool) = decide (l = r)
  | [], [] => rfl
  | [], _ :: _ => rfl
  | _ :: _, [] => rfl
  | x :: l, y :: r => by
    have ih := bools_eqv l r
    cases x <;> cases y <;> simp [PyData.eqvAll, PyData.eqv, ih]
theorem bools_lay : ∀ l : List Bool, PyData.canLayAll0 (l.map PyData.bool) = true ∧ PyData.depthAll (l.map PyData.bool) ≤ 1
  | [] => ⟨rfl, by decide⟩
  | x :: l => by
    obtain ⟨a, b⟩ := bools_lay l
    simp only [List.map_cons, PyData.canLayAll0, PyData.depthAll, PyData.canLay0, PyData.depth, a, Bool.and_self, true_and]
    omega
theorem tr_ne_bools {l r : List Bool} (h1 : Ex prog w A env h₀ L m I e1 (.list (dbools l))) (h2 : Ex prog w A env h₀ L m I e2 (.list (dbools r))) (hu : A.units + 64 < cLine) (hb' : behindInMarks .NotEq e2 = false := by rfl) :
    Tr prog w A env h₀ L m I (.Compare e1 [.NotEq] [e2] pos) (!decide (l = r)) := by
  intro J s Q E hs F N h
  refine wpAny_isTrue_Compare1 (two_lists (R := fun a b s₂ => wpAny (model prog w) A (compareOp .NotEq a b) (fun c s₃ => wpAny (model prog w) A (truthy c) Q E s₃) E s₂) h1 h2 hs F N fun a vs n a' vs' n' nw h' tk F' N' o hm D hm' D' => ?_) hb'
  obtain ⟨as, ra⟩ := bools_read (h := h') D
  obtain ⟨bs, rb⟩ := bools_read (h := h') D'
  have la := bools_lay l
  have lb := bools_lay r
  have e : PyData.eqv (.list (l.map PyData.bool)) (.list (r.map PyData.bool)) = decide (l = r) := by rw [PyData.eqv]; exact bools_eqv l r
  refine ne_dataH (reads_list_at (N'.get (mem_up hs hm)) rfl rfl (by simpa using ra)) (reads_list_at (N'.get (mem_up hs hm')) rfl rfl (by simpa using rb)) ?_ ?_ hu (by rw [e]; exact wpAny_truthy_bool (h _ _ F' (drop_mid N')))
  · unfold SeqAt.shaped; simp only [PyData.canLay0, PyData.depth, la.1, Bool.true_and]; exact decide_eq_true (by omega)
  · unfold SeqAt.shaped; simp only [PyData.canLay0, PyData.depth, lb.1, Bool.true_and]; exact decide_eq_true (by omega)

-- and, or, if
variable {es : List PySem.Expr}
theorem tr_and_nil : Tr prog w A env h₀ L m I (.BoolOp .And [] pos) true := by
  intro J s Q E hs F N h
  exact isTrue_and_nil (h _ _ F N)
theorem tr_or_nil : Tr prog w A env h₀ L m I (.BoolOp .Or [] pos) false := by
  intro J s Q E hs F N h
  exact isTrue_or_nil (h _ _ F N)
end
end Mine
end
section
/-! part FwD -/
open PySem PySem.W PyProof.Rows PySem.Spec PySem.Calls PyProof.V
set_option maxRecDepth 100000
namespace Mine
section
variable {prog : Program} {w : World} {A : Around} {env : Env} {h₀ : Heap} {L : Addr} {m : Mp} {I : Led} {e e1 e2 e3 : PySem.Expr} {d : Dat} {pos : Pos} {ρ : List (PySem.Str × Dat)} {a b : Int} {x y : Bool} {es : List PySem.Expr}

theorem tr_and (h1 : Tr prog w A env h₀ L m I e x) (h2 : x = true → Tr prog w A env h₀ L m I (.BoolOp .And es pos) y) : Tr prog w A env h₀ L m I (.BoolOp .And (e :: es) pos) (x && y) := by
  intro J s Q E hs F N h
  refine isTrue_and (h1 J s _ E hs F N fun h' tk F' N' => ?_)
  cases x with
  | true => exact h2 rfl J _ Q E hs F' N' fun h'' tk' F'' N'' => h _ _ F'' N''
  | false => exact h _ _ F' N'
theorem tr_or (h1 : Tr prog w A env h₀ L m I e x) (h2 : x = false → Tr prog w A env h₀ L m I (.BoolOp .Or es pos) y) : Tr prog w A env h₀ L m I (.BoolOp .Or (e :: es) pos) (x || y) := by
  intro J s Q E hs F N h
  refine isTrue_or (h1 J s _ E hs F N fun h' tk F' N' => ?_)
  cases x with
  | false => exact h2 rfl J _ Q E hs F' N' fun h'' tk' F'' N'' => h _ _ F'' N''
  | true => exact h _ _ F' N'
theorem tr_and2 (h1 : Tr prog w A env h₀ L m I e1 x) (h2 : x = true → Tr prog w A env h₀ L m I e2 y) : Tr prog w A env h₀ L m I (.BoolOp .And [e1, e2] pos) (x && y) := by
  have := tr_and (pos := pos) h1 fun hx => tr_and (pos := pos) (h2 hx) fun _ => tr_and_nil (pos := pos)
  simpa using this
theorem tr_or2 (h1 : Tr prog w A env h₀ L m I e1 x) (h2 : x = false → Tr prog w A env h₀ L m I e2 y) : Tr prog w A env h₀ L m I (.BoolOp .Or [e1, e2] pos) (x || y) := by
  have := tr_or (pos := pos) h1 fun hx => tr_or (pos := pos) (h2 hx) fun _ => tr_or_nil (pos := pos)
  simpa using this
theorem ex_and2 (h1 : Ex prog w A env h₀ L m I e1 (.bool x)) (h2 : x = true → Ex prog w A env h₀ L m I e2 (.bool y)) : Ex prog w A env h₀ L m I (.BoolOp .And [e1, e2] pos) (.bool (x && y)) := by
  intro J s Q E hs F N h
  refine BoolOp_and (Ex.bool h1 hs F N fun h' tk F' N' => wpAny_truthy_bool ?_)
  cases x with
  | true => exact BoolOp_one (Ex.bool (h2 rfl) hs F' N' fun h'' tk' F'' N'' => h _ [] _ _ F'' N'' Off.nil (.bool _))
  | false => exact h _ [] _ _ F' N' Off.nil (.bool _)
theorem ex_if (h1 : Tr prog w A env h₀ L m I e x) (h2 : x = true → Ex prog w A env h₀ L m I e1 d) (h3 : x = false → Ex prog w A env h₀ L m I e2 d) : Ex prog w A env h₀ L m I (.IfExp e e1 e2 pos) d := by
  intro J s Q E hs F N h
  refine IfExp_ (h1 J s _ E hs F N fun h' tk F' N' => ?_)
  cases x with
  | true => exact h2 rfl J _ Q E hs F' N' fun v nw h'' tk' F'' N'' => h v nw _ _ F'' N''
  | false => exact h3 rfl J _ Q E hs F' N' fun v nw h'' tk' F'' N'' => h v nw _ _ F'' N''

-- items
abbrev SubEq (slice : PySem.Expr) : Prop := ∀ (a : Addr) (k : Int) (u : Tok), subscripted slice false (.ref a) (.int k u) = operate [.ref a, .int k u] (getItem (.ref a) (.int k u))
abbrev LetGo (value : PySem.Expr) : Prop := ∀ (v r : Value), letTemporaryGo value v r = pure ()
abbrev LetGoR (value : PySem.Expr) : Prop := ∀ (a : Addr) (r : Value), letTemporaryGo value (.ref a) r = pure ()
theorem ex_item {ds : List Dat} {k : Nat} (h1 : Ex prog w A env h₀ L m I e1 (.list ds)) (h2 : Ex prog w A env h₀ L m I e2 (.int a)) (h0 : 0 ≤ a) (hk : ds[a.toNat]? = some d) (hz : a < 2 ^ 63)
    (hsub : SubEq e2 := by unfold SubEq; intros; with_unfolding_all rfl) : Ex prog w A env h₀ L m I (.Subscript e1 e2 pos) d := by
  intro J s Q E hs F N h
  refine Subscript_ (Ex.lst h1 hs F N fun c vs n nw h' tk F' N' o hm D => Ex.int h2 (hs.app) F' N' fun u h'' tk' F'' N'' => ?_)
  obtain ⟨hlt, hd⟩ := List.getElem?_eq_some_iff.mp hk
  obtain ⟨v, hv, Dv⟩ := D.get hlt
  refine kba_turn (value' := PySem.Expr.Name (PySem.Str.ofString "_") ⟨0, 0, 0, 0⟩) (fun _ => rfl) ?_
  refine kim_list N'' (mem_up hs hm) rfl rfl h0 hz hv ?_ (hsub _ _ _) (fun _ => rfl)
  refine h v nw _ _ F'' N'' o ?_
  rw [← hd]; exact Dv
theorem ex_item_neg {ds : List Dat} (h1 : Ex prog w A env h₀ L m I e1 (.list ds)) (h2 : Ex prog w A env h₀ L m I e2 (.int a)) (h0 : a < 0) (h0' : -(ds.length : Int) ≤ a) (hk : ds[(a + ds.length).toNat]? = some d) (hz : -(2 ^ 63) ≤ a)
    (hsub : SubEq e2 := by unfold SubEq; intros; with_unfolding_all rfl) : Ex prog w A env h₀ L m I (.Subscript e1 e2 pos) d := by
  intro J s Q E hs F N h
  refine Subscript_ (Ex.lst h1 hs F N fun c vs n nw h' tk F' N' o hm D => Ex.int h2 (hs.app) F' N' fun u h'' tk' F'' N'' => ?_)
  obtain ⟨hlt, hd⟩ := List.getElem?_eq_some_iff.mp hk
  obtain ⟨v, hv, Dv⟩ := D.get hlt
  have hlen := D.length
  refine kba_turn (value' := PySem.Expr.Name (PySem.Str.ofString "_") ⟨0, 0, 0, 0⟩) (fun _ => rfl) ?_
  refine kim_back N'' (mem_up hs hm) rfl rfl h0 (by rw [hlen]; exact h0') hz (by rw [hlen]; exact hv) ?_ (hsub _ _ _) (fun _ => rfl)
  refine h v nw _ _ F'' N'' o ?_
  rw [← hd]; exact Dv

-- slices of lists
abbrev SliceEq (slice : PySem.Expr) : Prop := ∀ (a b : Addr), ∃ ops, subscripted slice false (.ref a) (.ref b) = operate ops (getItem (.ref a) (.ref b))
inductive PartOk (prog : Program) (w : World) (A : Around) (env : Env) (h₀ : Heap) (L : Addr) (m : Mp) (I : Led) : Option PySem.Expr → Option Int → Prop
  | none : PartOk prog w A env h₀ L m I none none
  | some {e : PySem.Expr} {i : Int} (h : Ex prog w A env h₀ L m I e (.int i)) : PartOk prog w A env h₀ L m I (some e) (some i)
theorem PartOk.go {p : Option PySem.Expr} {o : Option Int} {J : Led} {s : Shared} {Q E : Value → Shared → Prop} (h : PartOk prog w A env h₀ L m I p o) (hs : Sub I J) (F : Fr h₀ L s.heap m) (N : News h₀ L s.heap J)
    (k : ∀ v h' tk, Fr h₀ L h' m → News h₀ L h' J → IsPart v o → Q v { s with heap := h', toks := tk }) : wpAny (model prog w) A (evalPart p env) Q E s := by
  cases h with
  | none => exact evalPart_none_step (k _ _ _ F N .none)
  | some h => exact evalPart_some_step (Ex.int h hs F N fun t h' tk F' N' => k _ _ _ F' N' (.int _ _))
def lpick {α : Type} (l : List α) (lo hi st : Option Int) : List α :=
  (sliceRange (sliceBounds lo hi st l.length).1 (sliceBounds lo hi st l.length).2.1 (sliceBounds lo hi st l.length).2.2).filterMap (l[·]?)
theorem pick_all {J : Led} {vs : List Value} {ds : List Dat} (D : DatAll J vs ds) : ∀ ix : List Nat, DatAll J (ix.filterMap (vs[·]?)) (ix.filterMap (ds[·]?))
  | [] => .nil
  | i :: r => by
    have ih := pick_all D r
    by_cases hi : i < ds.length
    · obtain ⟨v, hv, Dv⟩ := D.get hi
      have hd : ds[i]? = some ds[i] := List.getElem?_eq_getElem hi
      rw [List.filterMap_cons, List.filterMap_cons, hv, hd]
      exact .cons Dv ih
    · have hd : ds[i]? = none := List.getElem?_eq_none (by omega)
      have hv : vs[i]? = none := List.getElem?_eq_none (by rw [D.length]; omega)
      rw [List.filterMap_cons, List.filterMap_cons, hv, hd]
      exact ih
theorem ex_slice {ds zs : List Dat} {lo hi st : Option PySem.Expr} {l u k : Option Int} {sp : Pos} (h1 : Ex prog w A env h₀ L m I e1 (.list ds)) (hlo : PartOk prog w A env h₀ L m I lo l) (hhi : PartOk prog w A env h₀ L m I hi u) (hst : PartOk prog w A env h₀ L m I st k)
    (hk : k ≠ some 0) (hz : ds.length ≤ sizeLine) (he : lpick ds l u k = zs) (hsub : SliceEq (.Slice lo hi st sp) := by unfold SliceEq; intros; exact ⟨_, by with_unfolding_all rfl⟩) : Ex prog w A env h₀ L m I (.Subscript e1 (.Slice lo hi st sp) pos) (.list zs) := by
  intro J s Q E hs F N h
  refine Subscript_ (Ex.lst h1 hs F N fun c vs n nw h' tk F' N' o hm D => ?_)
  refine wpAny_Slice (hlo.go (hs.app) F' N' fun v1 h2 tk2 F2 N2 p1 => hhi.go (hs.app) F2 N2 fun v2 h3 tk3 F3 N3 p2 => hst.go (hs.app) F3 N3 fun v3 h4 tk4 F4 N4 p3 => ?_)
  have hlen := D.length
  obtain ⟨ops, hsub'⟩ := hsub c h4.objs.size
  refine kba_turn (value' := PySem.Expr.Name (PySem.Str.ofString "_") ⟨0, 0, 0, 0⟩) (fun _ => rfl) ?_
  refine kmk_slice3_lit (s := { s with heap := h4, toks := tk4 }) F4 N4 (News.isList N4 (mem_up hs hm)) p1 p2 p3 hk (zs := lpick vs l u k) ?_ (fun D2 h5 F5 N5 lt => ?_) hsub' (fun _ => rfl) (by simpa [hlen] using hz)
  · simp [slicePick, lpick]
  · refine h _ ((D2, PySem.W.listOf (lpick vs l u k).toArray 0) :: nw) _ _ F5 N5 (Off.app (n2 := [_]) (Off.one lt) o) ?_
    refine .list (List.mem_cons_self) (all_mono (fun p hp => List.mem_cons.mpr (.inr hp)) ?_)
    rw [← he]
    unfold lpick
    rw [hlen]
    exact pick_all D _

theorem lpick_rev {α : Type} (l : List α) : lpick l none none (some (-1)) = l.reverse := by
  unfold lpick
  rw [krv_bounds]
  dsimp only
  rw [krv_sliceRange, krv_range, List.filterMap_reverse]
  congr 1
  have := krv_all l.toArray
  simpa using this
theorem lpick_from {α : Type} (l : List α) {a : Int} (h : 0 ≤ a) : lpick l (some a) none none = l.drop a.toNat := by
  unfold lpick
  rw [kms_bounds]
  have h' : ¬ a < 0 := by omega
  simp only [kms_lo, kms_hi, if_neg h']
  have := StrLaws.picks l (l.length - min a.toNat l.length) (min a.toNat l.length) (by omega)
  have e : sliceRange ((min a.toNat l.length : Nat) : Int) (l.length : Int) 1 = (List.range (l.length - min a.toNat l.length)).map (fun k => min a.toNat l.length + k) := by
    have q := StrLaws.strSliceIndices_plain (a := min a.toNat l.length) (b := l.length) (len := l.length) (by omega) (by omega)
    rw [← q]
    simp only [Builtin.Str.strSliceIndices]
    have h1 : ¬ (((min a.toNat l.length : Nat) : Int) < 0) := by omega
    have h2 : ¬ (((l.length : Nat) : Int) < 0) := by omega
    have e1 : max (0 : Int) (min ((min a.toNat l.length : Nat) : Int) (l.length : Int)) = ((min a.toNat l.length : Nat) : Int) := by omega
    have e2 : max (0 : Int) (min ((l.length : Nat) : Int) (l.length : Int)) = ((l.length : Nat) : Int) := by omega
    simp only [h1, h2, if_false, e1, e2]
    first | rfl | simp
  rw [e, this]
  rw [List.take_of_length_le (by simp)]
  exact kmk_drop_min l _
theorem lpick_upto {α : Type} (l : List α) {b : Int} (h : 0 ≤ b) : lpick l none (some b) none = l.take b.toNat := by
  unfold lpick
  rw [kms_bounds]
  have h' : ¬ b < 0 := by omega
  simp only [kms_lo, kms_hi, if_neg h']
  have := StrLaws.picks l (min b.toNat l.length - 0) 0 (by omega)
  have e : sliceRange ((0 : Nat) : Int) ((min b.toNat l.length : Nat) : Int) 1 = (List.range (min b.toNat l.length - 0)).map (fun k => 0 + k) := by
    have q := StrLaws.strSliceIndices_plain (a := 0) (b := min b.toNat l.length) (len := l.length) (by omega) (by omega)
    rw [← q]
    simp only [Builtin.Str.strSliceIndices]
    have h1 : ¬ (((0 : Nat) : Int) < 0) := by omega
    have h2 : ¬ (((min b.toNat l.length : Nat) : Int) < 0) := by omega
    have e1 : max (0 : Int) (min ((0 : Nat) : Int) (l.length : Int)) = ((0 : Nat) : Int) := by omega
    have e2 : max (0 : Int) (min ((min b.toNat l.length : Nat) : Int) (l.length : Int)) = ((min b.toNat l.length : Nat) : Int) := by omega
    simp only [h1, h2, if_false, e1, e2]
    first | rfl | simp
  rw [e, this]
  simp only [List.drop_zero, Nat.sub_zero]
  exact kmk_take_min l _

-- texts: an item, a tail
theorem ex_item_str {x : PySem.Str} (h1 : Ex prog w A env h₀ L m I e1 (.str x)) (h2 : Ex prog w A env h₀ L m I e2 (.int a)) (hr : fitsSsize a = true) (h3 : -(x.length : Int) ≤ a) (h4 : a < x.length)
    (hsub : ∀ t u, subscripted e2 false (.str x t) (.int a u) = operate [.str x t, .int a u] (getItem (.str x t) (.int a u)) := by intros; with_unfolding_all rfl) (hl : ∀ t r, letTemporaryGo e1 (.str x t) r = pure () := by intros; with_unfolding_all rfl) : Ex prog w A env h₀ L m I (.Subscript e1 e2 pos) (.str (Txt.item x a)) := by
  intro J s Q E hs F N h
  refine Subscript_ (Ex.str h1 hs F N fun t h' tk F' N' => Ex.int h2 hs F' N' fun u h'' tk' F'' N'' => ?_)
  exact item_str hr h3 h4 (fun _ => h _ [] _ _ F'' N'' Off.nil (.str _ _)) (hsub _ _) (hl _)
theorem ex_tail_str {x : PySem.Str} {sp : Pos} (h1 : Ex prog w A env h₀ L m I e1 (.str x)) (h2 : Ex prog w A env h₀ L m I e2 (.int a)) (hz : x.length ≤ sizeLine)
    (hsub : ∀ t b, subscripted (.Slice (some e2) none none sp) false (.str x t) (.ref b) = operate [.ref b, .str x t] (getItem (.str x t) (.ref b)) := by intros; with_unfolding_all rfl) (hl : ∀ t r, letTemporaryGo e1 (.str x t) r = pure () := by intros; with_unfolding_all rfl) :
    Ex prog w A env h₀ L m I (.Subscript e1 (.Slice (some e2) none none sp) pos) (.str (Txt.slice x (some a) none)) := by
  intro J s Q E hs F N h
  refine Subscript_ (Ex.str h1 hs F N fun t h' tk F' N' => wpAny_Slice (evalPart_some_step (Ex.int h2 hs F' N' fun u h'' tk' F'' N'' => evalPart_none_step (evalPart_none_step ?_))))
  exact slice_strN_sn (s := { s with heap := h'', toks := tk' }) F'' N'' (fun h3 t' k F3 N3 => h _ [] _ _ F3 N3 Off.nil (.str _ _)) (hsub _ _) (hl _) hz
end
end Mine
end
section
/-! part FwE -/
open PySem PySem.W PyProof.Rows PySem.Spec PySem.Calls PyProof.V
set_option maxRecDepth 100000
namespace Mine

def Site (K : Frag) (p : Program) (loose : List PySem.Str) (mean : ExcName → Option Value) (mg mb : Mp) (A : Around) (h₀ : Heap) (L : Addr) (k : Nat) : Prop :=
  K.In h₀ ∧ Top p loose mean mg mb h₀ ∧ A.handled = none ∧ A.depth + k < recursionLimit ∧ A.units + 8 * k + 64 < cLine ∧
  ∃ (env : Env) (outer : List Env) (A₀ : Around) (base : Heap), Below A₀ base outer h₀ ∧ A.frames = some (env :: outer) ∧ env.frame = some L ∧ env.scope.kind = .function

section
variable {prog : Program} {w : World} {K : Frag} {p : Program} {loose : List PySem.Str} {mean : ExcName → Option Value} {mg mb : Mp} {A : Around} {env : Env} {h₀ : Heap} {L : Addr} {m : Mp} {I J : Led} {e e1 e2 : PySem.Expr} {d r : Dat} {pos : Pos} {k : Nat}
theorem Site.units (S : Site K p loose mean mg mb A h₀ L k) : A.units + 64 < cLine := by
  obtain ⟨_, _, _, _, h, _⟩ := S; omega
theorem Site.hd (S : Site K p loose mean mg mb A h₀ L k) : A.handled = none := S.2.2.1
theorem Site.inK (S : Site K p loose mean mg mb A h₀ L k) : K.In h₀ := S.1
theorem Site.less {k' : Nat} (S : Site K p loose mean mg mb A h₀ L k) (h : k' ≤ k) : Site K p loose mean mg mb A h₀ L k' := by
  obtain ⟨a, b, c, d, e, f⟩ := S
  exact ⟨a, b, c, by omega, by omega, f⟩

/-- a def: of these data it makes that datum -/
def Fn (prog : Program) (w : World) (K : Frag) (p : Program) (loose : List PySem.Str) (mean : ExcName → Option Value) (mg mb : Mp) (f : Addr) (k : Nat) (ds : List Dat) (r : Dat) : Prop :=
  ∀ (A : Around) (h₀ : Heap) (L : Addr) (m : Mp) (I J : Led) (s : Shared) (vs : List Value) (Q E : Value → Shared → Prop), Site K p loose mean mg mb A h₀ L k → Sub I J → Fr h₀ L s.heap m → News h₀ L s.heap J → DatAll I vs ds →
    (∀ v nw h' tk, Fr h₀ L h' m → News h₀ L h' (nw ++ J) → Off nw J → DatIn (nw ++ I) v r → Q v { s with heap := h', toks := tk }) →
    wpAny (model prog w) A (call (.ref f) vs) Q E s

theorem ex_bool (x : Bool) (n : Nat) : Ex prog w A env h₀ L m I (.Constant (.bool x) n pos) (.bool x) := by
  intro J s Q E hs F N h
  exact wpAny_Constant_bool (h _ [] _ _ F N Off.nil (.bool _))

theorem name_global {x : PySem.Str} {v : Value} {s : Shared} {Q E : Value → Shared → Prop} (S : Site K p loose mean mg mb A h₀ L k) (F : Fr h₀ L s.heap m) (e : nsIn K mainGlobals x = some (some v)) (h : Q v s)
    (hg : env.globals = mainGlobals) (hk : env.scope.kind = .function) (hx : env.kindOf x = some .globalImplicit) (hd : (x == ("__debug__" : PySem.Str)) = false) : wpAny (model prog w) A (eval (.Name x pos) env) Q E s :=
  nameG_K F S.1 (topRead_of S.2.1) e h hg hk hx hd
theorem name_builtin {x : PySem.Str} {v : Value} {s : Shared} {Q E : Value → Shared → Prop} (S : Site K p loose mean mg mb A h₀ L k) (F : Fr h₀ L s.heap m) (e : nsIn K mainGlobals x = some none) (hv : bootBuiltins x = some v) (hn : x ≠ "__name__") (h : Q v s)
    (hg : env.globals = mainGlobals) (hb : env.builtins = builtinsNs) (hk : env.scope.kind = .function) (hx : env.kindOf x = some .globalImplicit) (hd : (x == ("__debug__" : PySem.Str)) = false) : wpAny (model prog w) A (eval (.Name x pos) env) Q E s := by
  have T := topRead_of S.2.1
  exact Name_function_global hk hx (loadGlobal_builtin (env := env) (by rw [hg]; exact T.g.keeps F.keep) (mg_none_of S.1 T.g e) (by rw [hb]; exact T.b.keeps F.keep) ((T.builtins x hn).trans hv) h) hd

/-- what a call of an own def asks of the place -/
structure Own (K : Frag) (env : Env) (x : PySem.Str) (f : Addr) : Prop where
  ns : nsIn K mainGlobals x = some (some (.ref f))
  keep : keepIn K (.ref f) = true
  g : env.globals = mainGlobals
  k : env.scope.kind = .function
  kind : env.kindOf x = some .globalImplicit
  dbg : (x == ("__debug__" : PySem.Str)) = false

theorem ex_call {x : PySem.Str} {f : Addr} {np : Pos} {es : List PySem.Expr} {ds : List Dat} (S : Site K p loose mean mg mb A h₀ L k) (O : Own K env x f) (fn : Fn prog w K p loose mean mg mb f k ds r) (ha : Args prog w A env h₀ L m I (e :: es) ds)
    (he : starEach (e :: es) env = (false, eval e env) :: starEach es env := by rfl)
    (hc : eval (.Call (.Name x np) (e :: es) [] pos) env = (do callWith pos (← eval (.Name x np) env) [] (backTo pos (starEach (e :: es) env)) (backToKw pos (keywordEach [] env))) := by rfl) :
    Ex prog w A env h₀ L m I (.Call (.Name x np) (e :: es) [] pos) r := by
  intro J s Q E hs F N h
  refine Call_ (name_global S F O.ns ?_ O.g O.k O.kind O.dbg) hc
  have key : wpAny (model prog w) A (spliced (backTo pos (starEach (e :: es) env))) (fun vs s₁ => K.In s₁.heap ∧ wpAny (model prog w) A (call (.ref f) ([] ++ vs)) Q E s₁) E s := by
    refine ha pos J s _ E hs F N fun vs nw h' tk F' N' o D => ⟨S.1.keeps F'.keep, ?_⟩
    refine fn A h₀ L m (nw ++ I) (nw ++ J) _ vs Q E S (Sub.front hs) F' N' D fun v nw2 h'' tk' F'' N'' o2 D2 => ?_
    exact h v (nw2 ++ nw) h'' tk' F'' (by rw [List.append_assoc]; exact N'') (o2.app o) (by rw [List.append_assoc]; exact D2)
  by_cases hst : (backTo pos (starEach es env)).any (·.1) = true
  · exact callWith_S2 S.1 O.keep key he hst
  · exact callWith_K S.1 O.keep key he (by simpa using hst)

/-- statements: what they hand back is r, or they go on -/
def Blk (prog : Program) (w : World) (A : Around) (env : Env) (h₀ : Heap) (L : Addr) (I : Led) (r : Dat) (body : List Stmt) (m : Mp) (n : Led) (Nx : Mp → Led → Prop) : Prop :=
  ∀ (J : Led) (s : Shared) (Q : Flow → Shared → Prop) (E : Value → Shared → Prop), Sub I J → Fr h₀ L s.heap m → News h₀ L s.heap (n ++ J) → Off n J →
    (∀ v nw h' tk m', Fr h₀ L h' m' → News h₀ L h' (nw ++ J) → Off nw J → DatIn (nw ++ I) v r → Q (.ret v) { s with heap := h', toks := tk }) →
    (∀ m' n' h' tk, Fr h₀ L h' m' → News h₀ L h' (n' ++ J) → Off n' J → Nx m' n' → Q .next { s with heap := h', toks := tk }) →
    wpAny (model prog w) A (execs body env) Q E s
abbrev NoNx : Mp → Led → Prop := fun _ _ => False
variable {n : Led} {body rest orelse : List Stmt} {Nx Nx' : Mp → Led → Prop} {b : Bool} {x : PySem.Str} {ρ : List (PySem.Str × Dat)}

theorem blk_nil (h : Nx m n) : Blk prog w A env h₀ L I r [] m n Nx := by
  intro J s Q E hs F N o kr kn
  exact wpAny_execs_nil (kn m n _ _ F N o h)
theorem blk_assign {px ps : Pos} (h1 : Ex prog w A env h₀ L m (n ++ I) e d) (h2 : ∀ v nw, Off nw (n ++ I) → DatIn (nw ++ (n ++ I)) v d → Blk prog w A env h₀ L I r rest (upd m x v) (nw ++ n) Nx)
    (hl : env.locals = L) (hx : env.kindOf x = some .local) (hk : env.scope.kind = .function) (hw : swapsWith e (some (.Name x px)) ps.line env = pure false := by rfl) :
    Blk prog w A env h₀ L I r (.Assign [.Name x px] e ps :: rest) m n Nx := by
  intro J s Q E hs F N o kr kn
  refine wpAny_execs_cons (wpAny_Assign_Name (h1 (n ++ J) s _ E (Sub.front hs) F N fun v nw h' tk F' N' o' D => ?_) hw)
  refine wpAny_storeName_local hx (by rw [hl]; exact F'.ns) (fun h'' hn hs' => ?_) (by rw [hk]; rfl)
  rw [hl] at hn hs'
  have F2 : Fr h₀ L h'' (upd m x v) := F'.set hn hs'
  have N2 : News h₀ L h'' (nw ++ (n ++ J)) := N'.set hs'
  exact h2 v nw (o'.sub (Sub.front hs)) D J _ Q E hs F2 (by rw [List.append_assoc]; exact N2) (o'.app o) kr kn
theorem blk_put {px ps : Pos} (V : Vars env L m (n ++ I) ρ) (h1 : Ex prog w A env h₀ L m (n ++ I) e d) (h2 : ∀ m' n', Vars env L m' (n' ++ I) ((x, d) :: ρ) → Blk prog w A env h₀ L I r rest m' n' Nx)
    (hl : env.locals = L := by rfl) (hx : env.kindOf x = some .local := by rfl) (hk : env.scope.kind = .function := by rfl) (hn : ((ρ.map (·.1)).all fun y => y != x) = true := by with_unfolding_all rfl) (hw : swapsWith e (some (.Name x px)) ps.line env = pure false := by rfl) :
    Blk prog w A env h₀ L I r (.Assign [.Name x px] e ps :: rest) m n Nx :=
  blk_assign h1 (fun v nw o D => h2 _ _ (by
    rw [List.append_assoc]
    refine V.put hl hx ?_ D
    rw [List.all_map] at hn; exact hn)) hl hx hk hw
theorem blk_return {ps : Pos} (h1 : Ex prog w A env h₀ L m (n ++ I) e r) : Blk prog w A env h₀ L I r (.Return (some e) ps :: rest) m n Nx := by
  intro J s Q E hs F N o kr kn
  refine wpAny_execs_cons (wpAny_Return_some (h1 (n ++ J) s _ E (Sub.front hs) F N fun v nw h' tk F' N' o' D => ?_))
  exact kr v (nw ++ n) h' tk m F' (by rw [List.append_assoc]; exact N') (o'.app o) (by rw [List.append_assoc]; exact D)
theorem blk_if {ps : Pos} (h1 : Tr prog w A env h₀ L m (n ++ I) e b) (h2 : b = true → Blk prog w A env h₀ L I r body m n Nx') (h3 : b = false → Blk prog w A env h₀ L I r orelse m n Nx')
    (h4 : ∀ m' n', Nx' m' n' → Blk prog w A env h₀ L I r rest m' n' Nx) : Blk prog w A env h₀ L I r (.If e body orelse ps :: rest) m n Nx := by
  intro J s Q E hs F N o kr kn
  refine wpAny_execs_cons (wpAny_If (h1 (n ++ J) s _ E (Sub.front hs) F N fun h' tk F' N' => ?_))
  cases b with
  | true => exact h2 rfl J _ _ E hs F' N' o (fun v nw h'' tk' m' F'' N'' o' D => kr v nw h'' tk' m' F'' N'' o' D) fun m' n' h'' tk' F'' N'' o' hn => h4 m' n' hn J _ Q E hs F'' N'' o' kr kn
  | false => exact h3 rfl J _ _ E hs F' N' o (fun v nw h'' tk' m' F'' N'' o' D => kr v nw h'' tk' m' F'' N'' o' D) fun m' n' h'' tk' F'' N'' o' hn => h4 m' n' hn J _ Q E hs F'' N'' o' kr kn
theorem blk_if_vars {ps : Pos} (P : Prop) (ρ' : List (PySem.Str × Dat)) (h1 : Tr prog w A env h₀ L m (n ++ I) e b) (h2 : b = true → Blk prog w A env h₀ L I r body m n (fun m' n' => P ∧ Vars env L m' (n' ++ I) ρ'))
    (h3 : b = false → Blk prog w A env h₀ L I r orelse m n (fun m' n' => P ∧ Vars env L m' (n' ++ I) ρ'))
    (h4 : P → ∀ m' n', Vars env L m' (n' ++ I) ρ' → Blk prog w A env h₀ L I r rest m' n' Nx) : Blk prog w A env h₀ L I r (.If e body orelse ps :: rest) m n Nx :=
  blk_if h1 h2 h3 fun m' n' ⟨a, b⟩ => h4 a m' n' b
/-- if e: return e1 -/
theorem blk_if_ret {ps pr : Pos} (h1 : Tr prog w A env h₀ L m (n ++ I) e b) (h2 : b = true → Ex prog w A env h₀ L m (n ++ I) e1 r) (h3 : b = false → Blk prog w A env h₀ L I r rest m n Nx) :
    Blk prog w A env h₀ L I r (.If e [.Return (some e1) pr] [] ps :: rest) m n Nx :=
  blk_if (Nx' := fun m' n' => b = false ∧ m' = m ∧ n' = n) h1 (fun hb => blk_return (h2 hb)) (fun hb => blk_nil ⟨hb, rfl, rfl⟩) fun m' n' ⟨hb, hm, hn⟩ => by subst hm hn; exact h3 hb

-- a def entered
theorem vars_zip {qual : PySem.Str} {scope : Scope} {cdv : Value} {f : Addr} : ∀ {names : List PySem.Str} {vs : List Value} {ds : List Dat}, names.length = vs.length → DatAll I vs ds →
    ∀ q ∈ names.zip ds, ∃ v, (q.1, v) ∈ names.zip vs ∧ DatIn I v q.2
  | [], [], _, _, .nil, q, hq => nomatch hq
  | x :: names, v :: vs, d :: ds, hl, .cons D r, q, hq => by
    rcases List.mem_cons.mp hq with rfl | hq
    · exact ⟨v, List.mem_cons_self, D⟩
    · obtain ⟨u, a, b⟩ := vars_zip (qual := qual) (scope := scope) (cdv := cdv) (f := f) (by simpa using hl) r q hq
      exact ⟨u, List.mem_cons.mpr (.inr a), b⟩
theorem look_mem {β : Type} : ∀ {cs : List (PySem.Str × β)} {n : PySem.Str} {c : β}, (cs.map (·.1)).Nodup → (n, c) ∈ cs → cs.lookup n = some c
  | (n', c') :: cs, n, c, hnd, hm => by
    rw [List.map_cons, List.nodup_cons] at hnd
    rcases List.mem_cons.mp hm with e | hm
    · cases e; simp [List.lookup_cons]
    · have hne : (n == n') = false := by
        apply beq_false_of_ne
        intro e
        exact hnd.1 (List.mem_map.mpr ⟨(n, c), hm, e⟩)
      rw [List.lookup_cons, hne]
      exact look_mem hnd.2 hm
theorem vars_of {qual : PySem.Str} {scope : Scope} {cdv : Value} {f : Addr} {names : List PySem.Str} {vs : List Value} {ds : List Dat} (hl : names.length = vs.length) (D : DatAll I vs ds) (hnd : names.Nodup)
    (hloc : (names.all fun x => decide (scope.names.lookup x = some .local)) = true) : Vars (envOf qual scope L f cdv) L (fun y => (names.zip vs).reverse.lookup y) I (names.zip ds) := fun q hq => by
  obtain ⟨v, a, b⟩ := vars_zip (qual := qual) (scope := scope) (cdv := cdv) (f := f) hl D q hq
  refine ⟨v, .loc rfl ?_ ?_, b⟩
  · exact of_decide_eq_true (List.all_eq_true.mp hloc _ (List.of_mem_zip a).1)
  · refine look_mem ?_ (List.mem_reverse.mpr a)
    rw [List.map_reverse, List.map_fst_zip (Nat.le_of_eq hl)]
    unfold List.Nodup at hnd ⊢
    rw [List.pairwise_reverse]
    exact hnd.imp fun h => Ne.symm h
theorem fn_enter {name qual : PySem.Str} {params : Arguments} {scope : Scope} {dV kV doc pm cdv ct oc : Value} {an od : Option Addr} {osl : Array (Option Value)} {f : Addr} {ds : List Dat} (names : List PySem.Str)
    (ho : K.lookup f = some ⟨oc, od, .func (fnOf name qual params body scope dV kV doc pm an cdv ct), osl⟩) (hcd : codeIn K cdv qual = true)
    (hbind : ∀ vs : List Value, vs.length = ds.length → bindArgs (fnOf name qual params body scope dV kV doc pm an cdv ct) ⟨vs, []⟩ = pure (names.zip vs))
    (hloc : (names.all fun x => decide (scope.names.lookup x = some .local)) = true) (hcell : (scope.names.all fun x => decide (x.2 ≠ .cell)) = true)
    (hnl : names.length = ds.length) (hnd : names.Nodup)
    (hb : ∀ (A : Around) (h₀ : Heap) (L : Addr) (I : Led) (m : Mp), Site K p loose mean mg mb A h₀ L k → Vars (envOf qual scope L f cdv) L m ([] ++ I) ρ → Blk prog w A (envOf qual scope L f cdv) h₀ L I r body m [] NoNx)
    (hρ : names.zip ds = ρ := by rfl)
    (hco : scope.isCoroutine = false := by rfl) (hgen : scope.isGenerator = false := by rfl) (hk : scope.kind = .function := by rfl) : Fn prog w K p loose mean mg mb f (k + 1) ds r := by
  intro A h₀ L m I J s vs Q E S hs F N D h
  obtain ⟨X, T, hh, hd, hu, env, outer, A₀, base, B, hA, hf, hke⟩ := S
  refine wpAny_call (code_def (K := K) B F X N T hA hf hke ho hcd (by omega) (BindsTo.of_eq (hbind vs D.length)) (fun y hy => ?_) (fun g L' h₁ FG F' N' B' X' T' => ?_) hco hgen hk (fun x hx => of_decide_eq_true (List.all_eq_true.mp hcell x hx)))
  · obtain ⟨a, b, e⟩ : ∃ a b, y = (a, b) ∧ a ∈ names := by
      obtain ⟨a, b⟩ := y
      exact ⟨a, b, rfl, (List.of_mem_zip hy).1⟩
    rw [e.1]; exact of_decide_eq_true (List.all_eq_true.mp hloc _ e.2)
  · have S' : Site K p loose mean mg mb (A.deeper (envOf qual scope L' f cdv)) g L' k := by
      refine ⟨X', T', hh, ?_, ?_, envOf qual scope L' f cdv, env :: outer, A, base, B', ?_, rfl, hk⟩
      · show A.depth + 1 + k < _; omega
      · show A.units + 3 + 8 * k + 64 < _; omega
      · show A.frames.map _ = _; rw [hA]; rfl
    refine hb _ g L' I _ S' (hρ ▸ vars_of (by rw [hnl, D.length]) D hnd hloc) J _ _ _ hs F' N' Off.nil (fun v nw h' tk m' F2 N2 o D2 => ?_) fun _ _ _ _ _ _ _ x => x.elim
    exact leaveK_ F2 N2 fun F3 N3 => h v nw h' tk F3 N3 o D2
end
end Mine
end
section
/-! part Rx2 -/
open PySem PySem.W PyProof.Rows PySem.Spec PySem.Calls PyProof.V
set_option maxRecDepth 100000
namespace Mine
theorem rx_attrs : PlainAttrs "re.Pattern" :=
  ⟨⟨"object.__getattribute__", by rw [typeLookup_type, builtinLookup_eq_fast]; kernel_rfl, by decide +kernel⟩, by rw [typeLookup_type, builtinLookup_eq_fast]; kernel_rfl⟩
theorem rx_slot : Slot "re.Pattern" "search" "re.Pattern.search" :=
  .of (owner := "re.Pattern") (n := "search") (by rw [typeLookup_type, builtinLookup_eq_fast]; kernel_rfl) (by decide +kernel) (by decide +kernel) (by decide +kernel)
    (by first | exact .inl (by decide +kernel) | exact .inr (by decide +kernel)) (by rw [isSubtype_type]; kernel_rfl)
theorem rx_ty : typeOf (.builtin "re.Pattern.search") = pure (.type "method_descriptor") := by show builtinType _ = _; rw [builtinType_eq_fast]; kernel_rfl
theorem rx_entry : entryFor table "re.Pattern.search" = some Builtin.«re.Pattern.search» := entryFor_of_tree (by kernel_rfl)
theorem rx_args (a b : Value) : argsOk "re.Pattern.search" ⟨[a, b], []⟩ := by
  unfold argsOk; kernel_rfl
theorem match_nobool : typeLookup (.type "re.Match") "__bool__" = pure none := by rw [typeLookup_type, builtinLookup_eq_fast]; kernel_rfl
theorem match_nolen : typeLookup (.type "re.Match") "__len__" = pure none := by rw [typeLookup_type, builtinLookup_eq_fast]; kernel_rfl

section
variable {prog : Program} {w : World} {A : Around} {E : Value → Shared → Prop} {s : Shared}
theorem drive_ok : ∀ (t n : Nat) (m : Sre.M) (b : Bool) (Q : Sre.M → Shared → Prop) (s : Shared), n ≤ 4 * t → Found b (m.runFor n) → (∀ m' : Sre.M, Found b m' → Q m' s) → wpAny (model prog w) A (Builtin.Re.reDrive (t + 1) m) Q E s
  | t, n, m, b, Q, s, hn, hf, hQ => by
    show wpAny (model prog w) A (if (m.runFor 4).outcome.isSome then pure (m.runFor 4) else rule "sre.turn" >>= fun _ => Builtin.Re.reDrive t (m.runFor 4)) Q E s
    by_cases h : (m.runFor 4).outcome.isSome = true
    · rw [if_pos h]
      refine wpAny_pure (hQ _ ?_)
      by_cases h4 : n ≤ 4
      · obtain ⟨k, hk⟩ : ∃ k, 4 = n + k := ⟨4 - n, by omega⟩
        rw [hk, runFor_add, runFor_done]
        · exact hf
        · rw [show (m.runFor n).outcome = _ from hf]; rfl
      · obtain ⟨k, hk⟩ : ∃ k, n = 4 + k := ⟨n - 4, by omega⟩
        rw [hk, runFor_add, runFor_done _ _ h] at hf
        exact hf
    · rw [if_neg h]
      have h4 : 4 < n := by
        apply Nat.lt_of_not_le
        intro h4
        obtain ⟨k, hk⟩ : ∃ k, 4 = n + k := ⟨4 - n, by omega⟩
        apply h
        have hs : (m.runFor n).outcome.isSome = true := by rw [show (m.runFor n).outcome = _ from hf]; rfl
        rw [hk, runFor_add, runFor_done _ _ hs]; exact hs
      obtain ⟨k, hk⟩ : ∃ k, n = 4 + k := ⟨n - 4, by omega⟩
      rw [hk, runFor_add] at hf
      cases t with
      | zero => omega
      | succ t => exact wpAny_bind (wpAny_rule (drive_ok t k _ b Q s (by omega) hf hQ))
theorem forIn_rules {f : Nat → PUnit → Sem (ForInStep PUnit)} (h : ∀ i s (Q : ForInStep PUnit → Shared → Prop), Q (.yield ⟨⟩) s → wpAny (model prog w) A (f i ⟨⟩) Q E s) : ∀ (l : List Nat) (s : Shared) (Q : PUnit → Shared → Prop), Q ⟨⟩ s → wpAny (model prog w) A (forIn l PUnit.unit f) Q E s
  | [], s, Q, hq => wpAny_pure hq
  | i :: r, s, Q, hq => by
    rw [List.forIn_cons]
    exact wpAny_bind (h i s _ (forIn_rules h r s Q hq))
theorem run_end (text : Array Nat) (hz : text.size ≤ 16777216) {Q : Option Sre.M → Shared → Prop} (h : ∀ m, Q (if ipv4L text.toList then some m else none) s) :
    wpAny (model prog w) A (Builtin.Re.reRunToEnd (Sre.forSearch code text 0 0 text.size false)) Q E s := by
  obtain ⟨n, hn, hf⟩ := search_runs text hz
  unfold Builtin.Re.reRunToEnd
  refine wpAny_bind (drive_ok (2 ^ 64 - 1) n _ _ _ s (Nat.le_trans hn (by decide)) hf fun m' hm => ?_)
  refine wpAny_bind (forIn_rules (fun i s Q hq => ?_) _ s _ ?_)
  · split
    · exact wpAny_bind (wpAny_rule (wpAny_pure hq))
    · first | exact wpAny_pure hq | exact wpAny_bind (wpAny_pure hq)
  · unfold Found at hm
    rw [hm]
    have := h m'
    cases hb : ipv4L text.toList with
    | true => rw [hb] at this; exact wpAny_pure this
    | false => rw [hb] at this; exact wpAny_pure this

def patObj (pat : PySem.Str) (t t1 t2 t3 : Tok) (b : Addr) : Obj := { cls := .type "re.Pattern", data := .fields #[.str pat t, .int 256 t1, .int 0 t2, .none, .none, .ref b, .int 0 t3] }
def codeObj : Obj := { cls := .type "tuple", data := .seq #[.int 14 0, .int 8 0, .int 1 0, .int 2 0, .int 4294967295 0, .int 1 0, .int 1 0, .int 46 0, .int 0 0, .int 16 0, .int 46 0, .int 24 0, .int 9 0, .int 1 0, .int 4294967295 0, .int 13 0, .int 4 0, .int 8 0, .int 0 0, .int 0 0, .int 1 0, .int 6 0, .int 5 0, .int 1 0] }
theorem search_body {a b : Addr} {pat : PySem.Str} {t0 t1 t2 t3 t : Tok} {x : PySem.Str} {Q : Value → Shared → Prop} (h1 : s.heap.get? a = some (patObj pat t0 t1 t2 t3 b)) (h2 : s.heap.get? b = some codeObj) (hz : x.length ≤ 16777216)
    (hno : ipv4L x.cps.toList = false → Q .none s)
    (hyes : ipv4L x.cps.toList = true → ∀ (o1 o2 : Obj), o2.cls = .type "re.Match" → o2.isFreed = false → (∀ b o, s.heap.get? b = some o → (s.heap.push o1).get? b = some o) → Q (.ref (s.heap.push o1).objs.size) { s with heap := (s.heap.push o1).push o2 }) :
    wpAny (model prog w) A (Builtin.«re.Pattern.search» ⟨[.ref a, .str x t], []⟩) (fun fin s' => ∃ v, fin = .done (.ret v) ∧ Q v s') E s := by
  unfold Builtin.«re.Pattern.search»
  have e : Builtin.Re.reNamed "re.Pattern.search" "search" ["string", "pos", "endpos"] 1 [.str x t] [] = pure [some (.str x t), none, none] := by with_unfolding_all rfl
  refine wpAny_bind ?_
  unfold Builtin.Re.reTarget
  refine wpAny_bind (wpAny_of_eq e ?_)
  dsimp only
  refine wpAny_bind (wpAny_pure ?_)
  refine wpAny_bind (wpAny_pure ?_)
  refine wpAny_bind (wpAny_bind (wpAny_load h1 ?_))
  dsimp only [patObj]
  refine wpAny_pure ?_
  have eT : Builtin.Re.reTextOf (.str x t) = pure (x.cps, 0) := by with_unfolding_all rfl
  refine wpAny_bind (wpAny_of_eq eT ?_)
  dsimp only
  have n1 : ¬ ((Builtin.Re.reRawNat (#[Value.str pat t0, Value.int 256 t1, Value.int 0 t2, Value.none, Value.none, Value.ref b, Value.int 0 t3].getD 6 Value.none) == 0 && (0 : Nat) == 1) = true) := by
    with_unfolding_all exact Bool.false_ne_true
  have n2 : ¬ ((Builtin.Re.reRawNat (#[Value.str pat t0, Value.int 256 t1, Value.int 0 t2, Value.none, Value.none, Value.ref b, Value.int 0 t3].getD 6 Value.none) == 1 && (0 : Nat) == 0) = true) := by
    with_unfolding_all exact Bool.false_ne_true
  rw [if_neg n1, if_neg n2]
  have e3 : Builtin.Re.reNoCollectionInside (.str x t) 0 = pure ⟨⟩ := by with_unfolding_all rfl
  refine wpAny_bind (wpAny_of_eq e3 ?_)
  have e4 : (#[Value.str pat t0, Value.int 256 t1, Value.int 0 t2, Value.none, Value.none, Value.ref b, Value.int 0 t3].getD 5 Value.none) = .ref b := by with_unfolding_all rfl
  rw [e4]
  refine wpAny_bind ?_
  unfold Builtin.Re.reRawItems
  refine wpAny_bind ?_
  unfold seqItems?
  refine wpAny_bind (wpAny_load h2 ?_)
  dsimp only [codeObj]
  refine wpAny_pure ?_
  refine wpAny_pure ?_
  refine wpAny_pure ?_
  have e5 : (Array.map (fun x => x.toNat) (Array.map Builtin.Re.reRawOf ((some #[Value.int 14 0, .int 8 0, .int 1 0, .int 2 0, .int 4294967295 0, .int 1 0, .int 1 0, .int 46 0, .int 0 0, .int 16 0, .int 46 0, .int 24 0, .int 9 0, .int 1 0, .int 4294967295 0, .int 13 0, .int 4 0, .int 8 0, .int 0 0, .int 0 0, .int 1 0, .int 6 0, .int 5 0, .int 1 0]).getD #[]))) = code := by decide +kernel
  have e6 : (Builtin.Re.reRawNat (#[Value.str pat t0, Value.int 256 t1, Value.int 0 t2, Value.none, Value.none, Value.ref b, Value.int 0 t3].getD 2 Value.none)) = 0 := by with_unfolding_all rfl
  have e7 : min (Int.toNat 0) x.cps.size = 0 := by simp
  have e8 : min (2 ^ 63 - 1 : Int).toNat x.cps.size = x.cps.size := by
    have : x.cps.size ≤ 16777216 := hz
    have h9 : (2 ^ 63 - 1 : Int).toNat = 9223372036854775807 := by decide
    omega
  dsimp only
  rw [e5, e6, e7, e8]
  unfold Builtin.Re.reAnswer
  refine wpAny_bind (run_end x.cps hz fun mm => ?_)
  cases hb : ipv4L x.cps.toList with
  | false => exact wpAny_pure ⟨_, rfl, hno hb⟩
  | true =>
    simp only [if_true]
    refine wpAny_bind ?_
    unfold Builtin.Re.reNewMatch
    simp only [List.range_zero, List.any_nil, Bool.false_eq_true, if_false, List.flatMap_nil]
    refine wpAny_bind (wpAny_newTuple (wpAny_newObj_type ?_ ?_) ?_)
    · exact wpAny_pure ⟨_, rfl, hyes hb _ _ rfl rfl fun b o e => Heap.get?_push_of_some _ e⟩
    · first | trivial | size_fits
    · show 2 ≤ sizeLine; decide
theorem call_search {a b : Addr} {pat : PySem.Str} {t0 t1 t2 t3 t : Tok} {x : PySem.Str} {Q : Value → Shared → Prop} (h1 : s.heap.get? a = some (patObj pat t0 t1 t2 t3 b)) (h2 : s.heap.get? b = some codeObj) (hz : x.length ≤ 16777216)
    (hno : ipv4L x.cps.toList = false → Q .none s)
    (hyes : ipv4L x.cps.toList = true → ∀ (o1 o2 : Obj), o2.cls = .type "re.Match" → o2.isFreed = false → (∀ b o, s.heap.get? b = some o → (s.heap.push o1).get? b = some o) → Q (.ref (s.heap.push o1).objs.size) { s with heap := (s.heap.push o1).push o2 }) :
    wpAny (model prog w) A (call (.builtin "re.Pattern.search") [.ref a, .str x t]) Q E s :=
  call_meets (S := fun _ R s' => s'.heap.get? a = some (patObj pat t0 t1 t2 t3 b) ∧ s'.heap.get? b = some codeObj ∧ (ipv4L x.cps.toList = false → R (.ok (.ret .none)) s') ∧ (ipv4L x.cps.toList = true → ∀ (o1 o2 : Obj), o2.cls = .type "re.Match" → o2.isFreed = false → (∀ b o, s'.heap.get? b = some o → (s'.heap.push o1).get? b = some o) → R (.ok (.ret (.ref (s'.heap.push o1).objs.size))) { s' with heap := (s'.heap.push o1).push o2 }))
    rx_slot ⟨_, h1, rfl⟩ rx_entry (rx_args _ _) (.of_wp fun prog w A R s' h => search_body h.1 h.2.1 hz h.2.2.1 h.2.2.2) ⟨h1, h2, hno, hyes⟩
end

section
variable {prog : Program} {w : World} {K : Frag} {p : Program} {loose : List PySem.Str} {mean : ExcName → Option Value} {mg mb : Mp} {A : Around} {env : Env} {h₀ : Heap} {L : Addr} {m : Mp} {I J : Led} {e e1 e2 : PySem.Expr} {d r : Dat} {pos : Pos} {k : Nat}
def ipv4 (x : PySem.Str) : Bool := ipv4L x.cps.toList
/-- what the search asks of the place -/
structure Pat (K : Frag) (env : Env) (x : PySem.Str) (a b : Addr) : Prop where
  ns : nsIn K mainGlobals x = some (some (.ref a))
  pat : ∃ pat t0 t1 t2 t3, K.lookup a = some (patObj pat t0 t1 t2 t3 b)
  code : K.lookup b = some codeObj
  g : env.globals = mainGlobals
  k : env.scope.kind = .function
  kind : env.kindOf x = some .globalImplicit
  dbg : (x == ("__debug__" : PySem.Str)) = false
theorem tr_search {x : PySem.Str} {n : PySem.Str} {a b : Addr} {np ap : Pos} {pl : Sem Bool} (S : Site K p loose mean mg mb A h₀ L k) (P : Pat K env n a b) (h2 : Ex prog w A env h₀ L m I e2 (.str x)) (hz : x.length ≤ 16777216)
    (he : MethEq (.Name n np) "search" ap [e2] pos env pl := by rfl) (he2 : starEach [e2] env = (false, eval e2 env) :: starEach [] env := by rfl)
    (ht : ∀ whole, PySem.isTrue (.Call (.Attribute (.Name n np) "search" ap) [e2] [] pos) env whole = (do let v ← whole; standAt (PySem.Expr.Call (.Attribute (.Name n np) "search" ap) [e2] [] pos).pos; holding [v] (truthy v)) := by intro _; rfl) :
    Tr prog w A env h₀ L m I (.Call (.Attribute (.Name n np) "search" ap) [e2] [] pos) (ipv4 x) := by
  intro J s Q E hs F N h
  obtain ⟨pat, t0, t1, t2, t3, hp⟩ := P.pat
  have X : K.In s.heap := S.1.keeps F.keep
  refine isTrue_plain (MethodCall' he (name_global S F P.ns ?_ P.g P.k P.kind P.dbg)) (ht _)
  refine getMethod_builtin (T := "re.Pattern") ⟨_, X _ _ hp, rfl⟩ rx_attrs rx_slot rx_ty (fun q e => by cases e; exact ⟨_, X _ _ hp, rfl⟩) ?_
  refine meth1 (t := 0) (first := [.ref a]) h2 hs F N (fun u h' tk F' N' => ?_) he2
  have X' : K.In h' := S.1.keeps F'.keep
  refine call_search (X' _ _ hp) (X' _ _ P.code) hz (fun hb => truthy_none ?_) fun hb o1 o2 hc hf hk => ?_
  · have : ipv4 x = false := hb
    rw [← this]; exact h _ _ F' N'
  · have hT : Shared.TypeIs { s with heap := (h'.push o1).push o2, toks := tk } (.ref (h'.push o1).objs.size) "re.Match" := ⟨o2, Heap.get?_push_size _ hf, hc⟩
    have up : ∀ b o, h'.get? b = some o → ((h'.push o1).push o2).get? b = some o := fun b o e => Heap.get?_push_of_some _ (hk b o e)
    have : ipv4 x = true := hb
    have fin := h _ tk (F'.keeps up) (N'.grown up)
    rw [this] at fin
    unfold truthy
    first
      | refine wpAny_bind (wpAny_callSpecial?_none (name := PySem.Str.ofString "__bool__") hT match_nobool ?_)
      | refine wpAny_bind (wpAny_pure (wpAny_bind (wpAny_callSpecial?_none (name := PySem.Str.ofString "__bool__") hT match_nobool ?_)))
    first
      | refine wpAny_bind (wpAny_specialOf (name := PySem.Str.ofString "__len__") hT match_nolen ?_)
      | refine wpAny_bind (wpAny_pure (wpAny_bind (wpAny_specialOf (name := PySem.Str.ofString "__len__") hT match_nolen ?_)))
    exact wpAny_pure fin
end
end Mine
end
section
/-! part Fn1 -/
open PySem PySem.W PyProof.Rows PySem.Spec PySem.Calls PyProof.V
set_option maxRecDepth 100000
namespace Mine
noncomputable abbrev prog : Program := PySem.Challenge.rw_rw0039_01.row.prog
noncomputable abbrev KK (w : World) : Frag := Mine.hd.heap_39 w.params
noncomputable abbrev vw : Program := Mine.hd.view_39
noncomputable abbrev ls : List PySem.Str := looseW Mine.hd.view_39 [Str.ofString "IPV4_RE"]
abbrev FnP (w : World) (mean : ExcName → Option Value) (mg mb : Mp) (f : Addr) (k : Nat) (ds : List Dat) (r : Dat) : Prop := Fn prog w (KK w) vw ls mean mg mb f k ds r
variable {w : World} {mean : ExcName → Option Value} {mg mb : Mp}

theorem pat_at (w : World) {env : Env} (hg : env.globals = mainGlobals) (hk : env.scope.kind = .function) (hx : env.kindOf "IPV4_RE" = some .globalImplicit) : Pat (KK w) env "IPV4_RE" 43 42 :=
  ⟨by with_unfolding_all rfl, ⟨_, _, _, _, _, by with_unfolding_all rfl⟩, by with_unfolding_all rfl, hg, hk, hx, by decide⟩

theorem fn_liberal (x : PySem.Str) (hz : x.length ≤ 16777216) : FnP w mean mg mb 64 1 [.str x] (.bool (!ipv4 x)) := by
  refine fn_enter (k := 0) [Str.ofString "text"] (ho := by with_unfolding_all rfl) (by with_unfolding_all rfl) (fun vs h => by match vs, h with | [a], _ => with_unfolding_all rfl) (by with_unfolding_all rfl) (by with_unfolding_all rfl) rfl (by decide) ?_
  intro A h₀ L I m S V
  refine blk_if_ret (b := ipv4 x) (tr_search S (pat_at w rfl rfl rfl) (ex_name V (.head _) rfl) hz) (fun hb => ?_) fun hb => blk_return ?_
  · rw [hb]; exact ex_bool _ _
  · rw [hb]; exact ex_bool _ _

def hdn (x : PySem.Str) : Bool := if ipv4 x then false else if x == Str.ofString "" then false else if Txt.item x 0 == Str.ofString "." || Txt.item x (-1) == Str.ofString "." then false else true
theorem len_pos {x : PySem.Str} (h : (x == Str.ofString "") = false) : 0 < x.length := by
  rcases Nat.eq_zero_or_pos x.length with e | e
  · exfalso
    have : x = Str.ofString "" := by
      apply Str.ext'
      have e' : x.cps.size = 0 := e
      have h2 : (Str.ofString "").cps = #[] := by decide
      rw [h2]; exact Array.eq_empty_of_size_eq_zero e'
    rw [this] at h
    simp at h
  · exact e
theorem fn_hdn (x : PySem.Str) (hz : x.length ≤ 16777216) : FnP w mean mg mb 50 1 [.str x] (.bool (hdn x)) := by
  refine fn_enter (k := 0) [Str.ofString "text"] (ho := by with_unfolding_all rfl) (by with_unfolding_all rfl) (fun vs h => by match vs, h with | [a], _ => with_unfolding_all rfl) (by with_unfolding_all rfl) (by with_unfolding_all rfl) rfl (by decide) ?_
  intro A h₀ L I m S V
  have hx : ∀ pos, Ex prog w A _ h₀ L _ I (.Name (Str.ofString "text") pos) (.str x) := fun pos => ex_name (pos := pos) V (.head _) rfl
  refine blk_if_ret (b := ipv4 x) (tr_search S (pat_at w rfl rfl rfl) (hx _) hz) (fun hb => ?_) fun hb => ?_
  · unfold hdn; rw [hb]; exact ex_bool _ _
  refine blk_if_ret (b := x == Str.ofString "") (tr_eq_str (hx _) (ex_str _ _)) (fun hb2 => ?_) fun hb2 => ?_
  · unfold hdn; rw [hb, hb2]; exact ex_bool _ _
  have hp := len_pos hb2
  refine blk_if_ret (b := Txt.item x 0 == Str.ofString "." || Txt.item x (-1) == Str.ofString ".") (tr_or2 (tr_eq_str (ex_item_str (hx _) (ex_int _ _) (by decide) (by omega) (by omega)) (ex_str _ _))
    fun _ => tr_eq_str (ex_item_str (hx _) (ex_neg_int (ex_int _ _)) (by decide) (by omega) (by omega)) (ex_str _ _)) (fun hb3 => ?_) fun hb3 => ?_
  · unfold hdn; rw [hb, hb2, hb3]; exact ex_bool _ _
  · unfold hdn; rw [hb, hb2, hb3]; exact blk_return (ex_bool _ _)
end Mine
end
section
/-! part Fn2 -/
open PySem PySem.W PyProof.Rows PySem.Spec PySem.Calls PyProof.V
set_option maxRecDepth 100000
namespace Mine
variable {w : World} {mean : ExcName → Option Value} {mg mb : Mp}
theorem own_hdn (w : World) {env : Env} (hg : env.globals = mainGlobals) (hk : env.scope.kind = .function) (hx : env.kindOf (Str.ofString "is_HDN") = some .globalImplicit) : Own (KK w) env (Str.ofString "is_HDN") 50 :=
  ⟨by with_unfolding_all rfl, by with_unfolding_all rfl, hg, hk, hx, by decide⟩
theorem own_lib (w : World) {env : Env} (hg : env.globals = mainGlobals) (hk : env.scope.kind = .function) (hx : env.kindOf (Str.ofString "liberal_is_HDN") = some .globalImplicit) : Own (KK w) env (Str.ofString "liberal_is_HDN") 64 :=
  ⟨by with_unfolding_all rfl, by with_unfolding_all rfl, hg, hk, hx, by decide⟩

/-- texts that the two matches take: ASCII, not too long -/
structure Ok (x : PySem.Str) : Prop where
  len : x.length ≤ 4000000
  low : (Txt.lower x).length ≤ 16000000

def tail1 (x : PySem.Str) : PySem.Str := Txt.slice x (some 1) none
def dm (A B : PySem.Str) : Bool :=
  if Txt.lower A == Txt.lower B then true else if !hdn (Txt.lower A) then false else
  if Txt.rfind (Txt.lower A) (Txt.lower B) == -1 || Txt.rfind (Txt.lower A) (Txt.lower B) == 0 then false else
  if !Txt.startswith (Txt.lower B) (Str.ofString ".") then false else if !hdn (tail1 (Txt.lower B)) then false else true
def udm (A B : PySem.Str) : Bool :=
  if !(!ipv4 (Txt.lower A) && !ipv4 (Txt.lower B)) then (if Txt.lower A == Txt.lower B then true else false) else
  if Txt.startswith (Txt.lower B) (Str.ofString ".") && Txt.endswith (Txt.lower A) (Txt.lower B) then true else
  if !Txt.startswith (Txt.lower B) (Str.ofString ".") && Txt.lower A == Txt.lower B then true else false

theorem fit_len {n : Nat} (h : n ≤ 16777216) : Builtin.Str.tooLong n = false := by
  unfold Builtin.Str.tooLong; rw [sizeLine_eq]; simp; omega
theorem tail1_len (x : PySem.Str) : (tail1 x).length ≤ x.length := PyProof.Txt.length_slice_le x _ _

theorem fn_dm (a b : PySem.Str) (ha : Ok a) (hb : Ok b) : FnP w mean mg mb 57 2 [.str a, .str b] (.bool (dm a b)) := by
  refine fn_enter (k := 1) [Str.ofString "A", Str.ofString "B"] (ho := by with_unfolding_all rfl) (by with_unfolding_all rfl) (fun vs h => by match vs, h with | [a, b], _ => with_unfolding_all rfl) (by with_unfolding_all rfl) (by with_unfolding_all rfl) rfl (by decide) ?_
  intro A h₀ L I m S V
  have la := ha.low
  have lb := hb.low
  refine blk_put (V.sub (ρ' := [(Str.ofString "B", Dat.str b)]) (fun p hp => .tail _ hp)) (ex_lower (ex_name V (.head _) rfl) (fit_len (by omega))) fun m n V => ?_
  refine blk_put (V.sub (ρ' := [(Str.ofString "A", Dat.str (Txt.lower a))]) (fun p hp => by rcases List.mem_singleton.mp hp with rfl; exact .head _)) (ex_lower (ex_name V (.tail _ (.head _)) rfl) (fit_len (by omega))) fun m n V => ?_
  have hB : ∀ pos, Ex prog w A _ h₀ L _ _ (.Name (Str.ofString "B") pos) (.str (Txt.lower b)) := fun pos => ex_name (pos := pos) V (.head _) rfl
  have hA : ∀ pos, Ex prog w A _ h₀ L _ _ (.Name (Str.ofString "A") pos) (.str (Txt.lower a)) := fun pos => ex_name (pos := pos) V (.tail _ (.head _)) rfl
  refine blk_if_ret (b := Txt.lower a == Txt.lower b) (tr_eq_str (hA _) (hB _)) (fun h1 => ?_) fun h1 => ?_
  · unfold dm; rw [h1]; exact ex_bool _ _
  refine blk_if_ret (b := !hdn (Txt.lower a)) (tr_not (tr_bool (ex_call S (own_hdn w rfl rfl rfl) (fn_hdn _ (by omega)) (args_cons' (hA _) args_nil')))) (fun h2 => ?_) fun h2 => ?_
  · unfold dm; rw [h1, h2]; exact ex_bool _ _
  refine blk_put V (ex_rfind (hA _) (hB _)) fun m n V => ?_
  have hB : ∀ pos, Ex prog w A _ h₀ L _ _ (.Name (Str.ofString "B") pos) (.str (Txt.lower b)) := fun pos => ex_name (pos := pos) V (.tail _ (.head _)) rfl
  have hi : ∀ pos, Ex prog w A _ h₀ L _ _ (.Name (Str.ofString "i") pos) (.int (Txt.rfind (Txt.lower a) (Txt.lower b))) := fun pos => ex_name (pos := pos) V (.head _) rfl
  refine blk_if_ret (b := Txt.rfind (Txt.lower a) (Txt.lower b) == -1 || Txt.rfind (Txt.lower a) (Txt.lower b) == 0) (tr_or2 (tr_eq_int (hi _) (ex_neg_int (ex_int _ _))) fun _ => tr_eq_int (hi _) (ex_int _ _)) (fun h3 => ?_) fun h3 => ?_
  · unfold dm; rw [h1, h2, h3]; exact ex_bool _ _
  refine blk_if_ret (b := !Txt.startswith (Txt.lower b) (Str.ofString ".")) (tr_not (tr_bool (ex_startswith (hB _) (ex_str _ _)))) (fun h4 => ?_) fun h4 => ?_
  · unfold dm; rw [h1, h2, h3, h4]; exact ex_bool _ _
  have lt := tail1_len (Txt.lower b)
  refine blk_if_ret (b := !hdn (tail1 (Txt.lower b))) (tr_not (tr_bool (ex_call S (own_hdn w rfl rfl rfl) (fn_hdn _ (by omega)) (args_cons' (ex_tail_str (hB _) (ex_int _ _) (by rw [sizeLine_eq]; omega)) args_nil')))) (fun h5 => ?_) fun h5 => ?_
  · unfold dm; rw [h1, h2, h3, h4, h5]; exact ex_bool _ _
  · unfold dm; rw [h1, h2, h3, h4, h5]; exact blk_return (ex_bool _ _)

theorem fn_udm (a b : PySem.Str) (ha : Ok a) (hb : Ok b) : FnP w mean mg mb 71 2 [.str a, .str b] (.bool (udm a b)) := by
  refine fn_enter (k := 1) [Str.ofString "A", Str.ofString "B"] (ho := by with_unfolding_all rfl) (by with_unfolding_all rfl) (fun vs h => by match vs, h with | [a, b], _ => with_unfolding_all rfl) (by with_unfolding_all rfl) (by with_unfolding_all rfl) rfl (by decide) ?_
  intro A h₀ L I m S V
  have la := ha.low
  have lb := hb.low
  refine blk_put (V.sub (ρ' := [(Str.ofString "B", Dat.str b)]) (fun p hp => .tail _ hp)) (ex_lower (ex_name V (.head _) rfl) (fit_len (by omega))) fun m n V => ?_
  refine blk_put (V.sub (ρ' := [(Str.ofString "A", Dat.str (Txt.lower a))]) (fun p hp => by rcases List.mem_singleton.mp hp with rfl; exact .head _)) (ex_lower (ex_name V (.tail _ (.head _)) rfl) (fit_len (by omega))) fun m n V => ?_
  have hB : ∀ pos, Ex prog w A _ h₀ L _ _ (.Name (Str.ofString "B") pos) (.str (Txt.lower b)) := fun pos => ex_name (pos := pos) V (.head _) rfl
  have hA : ∀ pos, Ex prog w A _ h₀ L _ _ (.Name (Str.ofString "A") pos) (.str (Txt.lower a)) := fun pos => ex_name (pos := pos) V (.tail _ (.head _)) rfl
  refine blk_if (b := !(!ipv4 (Txt.lower a) && !ipv4 (Txt.lower b))) (Nx' := fun m' n' => (!(!ipv4 (Txt.lower a) && !ipv4 (Txt.lower b))) = false ∧ m' = m ∧ n' = n)
    (tr_not (tr_and2 (tr_bool (ex_call S (own_lib w rfl rfl rfl) (fn_liberal _ (by omega)) (args_cons' (hA _) args_nil'))) fun _ => tr_bool (ex_call S (own_lib w rfl rfl rfl) (fn_liberal _ (by omega)) (args_cons' (hB _) args_nil'))))
    (fun h1 => ?_) (fun h1 => blk_nil ⟨h1, rfl, rfl⟩) ?_
  · refine blk_if_ret (b := Txt.lower a == Txt.lower b) (tr_eq_str (hA _) (hB _)) (fun h2 => ?_) fun h2 => ?_
    · unfold udm; rw [h1, h2]; exact ex_bool _ _
    · unfold udm; rw [h1, h2]; exact blk_return (ex_bool _ _)
  · rintro m' n' ⟨h1, rfl, rfl⟩
    refine blk_put V (ex_startswith (hB _) (ex_str _ _)) fun m n V => ?_
    have hB : ∀ pos, Ex prog w A _ h₀ L _ _ (.Name (Str.ofString "B") pos) (.str (Txt.lower b)) := fun pos => ex_name (pos := pos) V (.tail _ (.head _)) rfl
    have hA : ∀ pos, Ex prog w A _ h₀ L _ _ (.Name (Str.ofString "A") pos) (.str (Txt.lower a)) := fun pos => ex_name (pos := pos) V (.tail _ (.tail _ (.head _))) rfl
    have hd : ∀ pos, Ex prog w A _ h₀ L _ _ (.Name (Str.ofString "initial_dot") pos) (.bool (Txt.startswith (Txt.lower b) (Str.ofString "."))) := fun pos => ex_name (pos := pos) V (.head _) rfl
    refine blk_if_ret (b := Txt.startswith (Txt.lower b) (Str.ofString ".") && Txt.endswith (Txt.lower a) (Txt.lower b)) (tr_and2 (tr_bool (hd _)) fun _ => tr_bool (ex_endswith (hA _) (hB _))) (fun h2 => ?_) fun h2 => ?_
    · unfold udm; rw [h1, h2]; exact ex_bool _ _
    refine blk_if_ret (b := !Txt.startswith (Txt.lower b) (Str.ofString ".") && Txt.lower a == Txt.lower b) (tr_and2 (tr_not (tr_bool (hd _))) fun _ => tr_eq_str (hA _) (hB _)) (fun h3 => ?_) fun h3 => ?_
    · unfold udm; rw [h1, h2, h3]; exact ex_bool _ _
    · unfold udm; rw [h1, h2, h3]; exact blk_return (ex_bool _ _)

def tailFrom (x : PySem.Str) (i : Int) : PySem.Str := Txt.slice x (some i) none
def reachF (h : PySem.Str) : PySem.Str :=
  if decide (0 ≤ Txt.find h (Str.ofString ".")) then
    (if hdn h && (decide (0 ≤ Txt.find (tailFrom h (Txt.find h (Str.ofString ".") + 1)) (Str.ofString ".")) || tailFrom h (Txt.find h (Str.ofString ".") + 1) == Str.ofString "local") then Str.ofString "." ++ tailFrom h (Txt.find h (Str.ofString ".") + 1) else h)
  else h
theorem fn_reach (h : PySem.Str) (hz : h.length ≤ 16000000) : FnP w mean mg mb 78 2 [.str h] (.str (reachF h)) := by
  refine fn_enter (k := 1) [Str.ofString "h"] (ho := by with_unfolding_all rfl) (by with_unfolding_all rfl) (fun vs h => by match vs, h with | [a], _ => with_unfolding_all rfl) (by with_unfolding_all rfl) (by with_unfolding_all rfl) rfl (by decide) ?_
  intro A h₀ L I m S V
  refine blk_put V (ex_find (ex_name V (.head _) rfl) (ex_str _ _)) fun m n V => ?_
  have hh : ∀ pos, Ex prog w A _ h₀ L _ _ (.Name (Str.ofString "h") pos) (.str h) := fun pos => ex_name (pos := pos) V (.tail _ (.head _)) rfl
  have hi : ∀ pos, Ex prog w A _ h₀ L _ _ (.Name (Str.ofString "i") pos) (.int (Txt.find h (Str.ofString "."))) := fun pos => ex_name (pos := pos) V (.head _) rfl
  refine blk_if_vars (b := decide (0 ≤ Txt.find h (Str.ofString "."))) (reachF h = h) [(Str.ofString "h", Dat.str h)] (tr_ge_int (hi _) (ex_int _ _)) (fun h1 => ?_) (fun h1 => blk_nil ⟨?_, ?_⟩) ?_
  · have lt : (tailFrom h (Txt.find h (Str.ofString ".") + 1)).length ≤ h.length := PyProof.Txt.length_slice_le h _ _
    refine blk_put V (ex_tail_str (hh _) (ex_add_int (hi _) (ex_int _ _)) (by rw [sizeLine_eq]; omega)) fun m n V => ?_
    refine blk_put (V.sub (ρ' := [(Str.ofString "b", Dat.str (tailFrom h (Txt.find h (Str.ofString ".") + 1))), (Str.ofString "h", Dat.str h)]) (fun p hp => by
      rcases List.mem_cons.mp hp with rfl | hp
      · exact .head _
      · rcases List.mem_singleton.mp hp with rfl; exact .tail _ (.tail _ (.head _)))) (ex_find (ex_name V (.head _) rfl) (ex_str _ _)) fun m n V => ?_
    have hh : ∀ pos, Ex prog w A _ h₀ L _ _ (.Name (Str.ofString "h") pos) (.str h) := fun pos => ex_name (pos := pos) V (.tail _ (.tail _ (.head _))) rfl
    have hb : ∀ pos, Ex prog w A _ h₀ L _ _ (.Name (Str.ofString "b") pos) (.str (tailFrom h (Txt.find h (Str.ofString ".") + 1))) := fun pos => ex_name (pos := pos) V (.tail _ (.head _)) rfl
    have hi : ∀ pos, Ex prog w A _ h₀ L _ _ (.Name (Str.ofString "i") pos) (.int (Txt.find (tailFrom h (Txt.find h (Str.ofString ".") + 1)) (Str.ofString "."))) := fun pos => ex_name (pos := pos) V (.head _) rfl
    refine blk_if_ret (b := hdn h && (decide (0 ≤ Txt.find (tailFrom h (Txt.find h (Str.ofString ".") + 1)) (Str.ofString ".")) || tailFrom h (Txt.find h (Str.ofString ".") + 1) == Str.ofString "local"))
      (tr_and2 (tr_bool (ex_call S (own_hdn w rfl rfl rfl) (fn_hdn _ (by omega)) (args_cons' (hh _) args_nil'))) fun _ => tr_or2 (tr_ge_int (hi _) (ex_int _ _)) fun _ => tr_eq_str (hb _) (ex_str _ _)) (fun h2 => ?_) fun h2 => blk_nil ⟨?_, ?_⟩
    · unfold reachF; rw [h1, h2]; exact ex_add_str (ex_str _ _) (hb _) (by rw [sizeLine_eq, show (Str.ofString ".").length = 1 from by decide]; omega)
    · unfold reachF; rw [h1, h2]; rfl
    · exact V.sub (fun p hp => by rcases List.mem_singleton.mp hp with rfl; exact .tail _ (.tail _ (.head _)))
  · unfold reachF; rw [h1]; rfl
  · exact V.sub (fun p hp => .tail _ hp)
  · intro e m n V
    rw [e]
    exact blk_return (ex_name V (.head _) rfl)
end Mine
end
section
/-! part FwG -/
open PySem PySem.W PyProof.Rows PySem.Spec PySem.Calls PyProof.V
set_option maxRecDepth 100000
namespace Mine

def isSeqObj (o : Obj) : Prop := ∃ xs n, o.data = .seq xs n
mutual
theorem dat_strip {K K' : Led} (h : ∀ p ∈ K, isSeqObj p.2 → p ∈ K') : ∀ {v : Value} {d : Dat}, DatIn K v d → DatIn K' v d
  | _, _, .none => .none
  | _, _, .bool b => .bool b
  | _, _, .int i t => .int i t
  | _, _, .str x t => .str x t
  | _, _, .bytes b t => .bytes b t
  | _, _, .tuple hm r => .tuple (h _ hm ⟨_, _, rfl⟩) (all_strip h r)
  | _, _, .list hm r => .list (h _ hm ⟨_, _, rfl⟩) (all_strip h r)
theorem all_strip {K K' : Led} (h : ∀ p ∈ K, isSeqObj p.2 → p ∈ K') : ∀ {vs : List Value} {ds : List Dat}, DatAll K vs ds → DatAll K' vs ds
  | _, _, .nil => .nil
  | _, _, .cons a r => .cons (dat_strip h a) (all_strip h r)
end
theorem ns_not_seq {o : Obj} {m : Mp} (h : LCg.NsObj o m) : ¬ isSeqObj o := by
  rintro ⟨xs, n, e⟩
  obtain ⟨es, ep, hd, _⟩ := h
  rw [hd] at e; cases e

/-- the state within a comprehension: C its names, D its list; J what must stand -/
def CSn (h₀ : Heap) (L : Addr) (m : Mp) (C D : Addr) (I₀ J : Led) (ρc : List (PySem.Str × Dat)) (out : List Dat) (s₀ s : Shared) (nw : Led) : Prop :=
  ∃ (h : Heap) (tk : Nat) (oC : Obj) (m₂ : Mp) (ys : List Value), s = { s₀ with heap := h, toks := tk } ∧ Fr h₀ L h m ∧ LCg.NsObj oC m₂ ∧ News h₀ L h ((C, oC) :: (D, LCg.lst ys) :: (nw ++ J)) ∧ (@Ne Nat C D) ∧ Off nw J ∧
    (∀ p ∈ nw ++ J, (@Ne Nat p.1 C) ∧ (@Ne Nat p.1 D)) ∧ DatAll (nw ++ I₀) ys out ∧ (∀ q ∈ ρc, ∃ v, m₂ q.1 = some v ∧ DatIn (nw ++ I₀) v q.2)

def CS (h₀ : Heap) (L : Addr) (m : Mp) (C D : Addr) (I₀ J : Led) (ρc : List (PySem.Str × Dat)) (out : List Dat) (s₀ s : Shared) : Prop := ∃ nw, CSn h₀ L m C D I₀ J ρc out s₀ s nw
section
variable {prog : Program} {w : World} {A : Around} {env : Env} {h₀ : Heap} {L C D : Addr} {m : Mp} {I₀ J : Led} {ρc ρf : List (PySem.Str × Dat)} {out : List Dat} {s₀ s : Shared} {e elt : PySem.Expr} {d : Dat} {scope : Scope} {cl : List (PySem.Str × Addr)}

theorem CS.less {ρ' : List (PySem.Str × Dat)} (X : CS h₀ L m C D I₀ J ρc out s₀ s) (h : ∀ q ∈ ρ', q ∈ ρc) : CS h₀ L m C D I₀ J ρ' out s₀ s := by
  obtain ⟨nw, hh, tk, oC, m₂, ys, a, b, c, d, e, f, g, i, j⟩ := X
  exact ⟨nw, hh, tk, oC, m₂, ys, a, b, c, d, e, f, g, i, fun q hq => j q (h q hq)⟩

/-- what a comprehension's expressions see -/
theorem cs_vars {K : Led} {oC : Obj} {m₂ : Mp} (hC : (C, oC) ∈ K) (hn : LCg.NsObj oC m₂) (hk : ∀ q ∈ ρc, (compEnvC scope cl C env).kindOf q.1 = some .local) (hv : ∀ q ∈ ρc, ∃ v, m₂ q.1 = some v ∧ DatIn K v q.2)
    (V : Vars (compEnvC scope cl C env) L m K ρf) : Vars (compEnvC scope cl C env) L m K (ρc ++ ρf) := fun q hq => by
  rcases List.mem_append.mp hq with hq | hq
  · obtain ⟨v, a, b⟩ := hv q hq
    exact ⟨v, .comp oC m₂ (hk q hq) hC hn a, b⟩
  · exact V q hq

theorem cs_eval {Q E : Value → Shared → Prop} (hs : Sub I₀ J) (X : CS h₀ L m C D I₀ J ρc out s₀ s) (V : Vars (compEnvC scope cl C env) L m I₀ ρf) (hk : ∀ q ∈ ρc, (compEnvC scope cl C env).kindOf q.1 = some .local)
    (he : ∀ K, Sub I₀ K → Vars (compEnvC scope cl C env) L m K (ρc ++ ρf) → Ex prog w A (compEnvC scope cl C env) h₀ L m K e d)
    (k : ∀ v h tk oC m₂ ys nw, Fr h₀ L h m → LCg.NsObj oC m₂ → News h₀ L h ((C, oC) :: (D, LCg.lst ys) :: (nw ++ J)) → (@Ne Nat C D) → Off nw J → (∀ p ∈ nw ++ J, (@Ne Nat p.1 C) ∧ (@Ne Nat p.1 D)) → DatAll (nw ++ I₀) ys out →
      (∀ q ∈ ρc, ∃ v, m₂ q.1 = some v ∧ DatIn (nw ++ I₀) v q.2) → DatIn (nw ++ I₀) v d → Q v { s₀ with heap := h, toks := tk }) :
    wpAny (model prog w) A (eval e (compEnvC scope cl C env)) Q E s := by
  obtain ⟨nw, h, tk, oC, m₂, ys, rfl, F, hn, N, hCD, o, off, Dy, hv⟩ := X
  have Vk : Vars (compEnvC scope cl C env) L m ((C, oC) :: (nw ++ I₀)) (ρc ++ ρf) := cs_vars (List.mem_cons_self) hn hk (fun q hq => by
    obtain ⟨v, a, b⟩ := hv q hq
    exact ⟨v, a, dat_mono (Sub.cons Sub.rfl) b⟩) (V.mono (Sub.cons (Sub.app Sub.rfl)))
  refine he _ (Sub.cons (Sub.app Sub.rfl)) Vk ((C, oC) :: (D, LCg.lst ys) :: (nw ++ J)) _ Q E (fun p hp => ?_) F N fun v nw2 h' tk' F' N' o' Dv => ?_
  · rcases List.mem_cons.mp hp with rfl | hp
    · exact List.mem_cons_self
    · exact List.mem_cons.mpr (.inr (List.mem_cons.mpr (.inr (Sub.front hs p hp))))
  · have up : Sub (nw ++ I₀) ((nw2 ++ nw) ++ I₀) := fun p hp => by rw [List.append_assoc]; exact List.mem_append.mpr (.inr hp)
    refine k v h' tk' oC m₂ ys (nw2 ++ nw) F' hn (fun p hp => N' p ?_) hCD ?_ (fun p hp => ?_) (all_mono up Dy) (fun q hq => ?_) ?_
    · rcases List.mem_cons.mp hp with rfl | hp
      · exact List.mem_append.mpr (.inr List.mem_cons_self)
      · rcases List.mem_cons.mp hp with rfl | hp
        · exact List.mem_append.mpr (.inr (List.mem_cons.mpr (.inr List.mem_cons_self)))
        · rw [List.append_assoc] at hp
          rcases List.mem_append.mp hp with hp | hp
          · exact List.mem_append.mpr (.inl hp)
          · exact List.mem_append.mpr (.inr (List.mem_cons.mpr (.inr (List.mem_cons.mpr (.inr hp)))))
    · exact Off.app (o'.sub fun p hp => List.mem_cons.mpr (.inr (List.mem_cons.mpr (.inr hp)))) o
    · rw [List.append_assoc] at hp
      rcases List.mem_append.mp hp with hp | hp
      · exact ⟨fun q => o' p hp (C, oC) List.mem_cons_self q.symm, fun q => o' p hp (D, LCg.lst ys) (List.mem_cons.mpr (.inr List.mem_cons_self)) q.symm⟩
      · exact off p hp
    · obtain ⟨u, a, b⟩ := hv q hq
      exact ⟨u, a, dat_mono up b⟩
    · refine dat_strip (fun p hp hseq => ?_) Dv
      rw [List.append_assoc]
      rcases List.mem_append.mp hp with hp | hp
      · exact List.mem_append.mpr (.inl hp)
      · rcases List.mem_cons.mp hp with rfl | hp
        · exact absurd hseq (ns_not_seq hn)
        · exact List.mem_append.mpr (.inr hp)

theorem cs_emit {Q : PUnit → Shared → Prop} {E : Value → Shared → Prop} (hs : Sub I₀ J) (X : CS h₀ L m C D I₀ J ρc out s₀ s) (V : Vars (compEnvC scope cl C env) L m I₀ ρf) (hk : ∀ q ∈ ρc, (compEnvC scope cl C env).kindOf q.1 = some .local)
    (he : ∀ K, Sub I₀ K → Vars (compEnvC scope cl C env) L m K (ρc ++ ρf) → Ex prog w A (compEnvC scope cl C env) h₀ L m K elt d) (hz : out.length ≤ sizeLine)
    (k : ∀ s', CS h₀ L m C D I₀ J ρc (out ++ [d]) s₀ s' → Q ⟨⟩ s') :
    wpAny (model prog w) A (eval elt (compEnvC scope cl C env) >>= fun x => call (.builtin "list.append") [.ref D, x] >>= fun _ => pure ⟨⟩) Q E s := by
  refine wpAny_bind (cs_eval hs X V hk he fun v h tk oC m₂ ys nw F hn N hCD o off Dy hv Dv => wpAny_bind ?_)
  have hD := (N (D, LCg.lst ys) (List.mem_cons.mpr (.inr List.mem_cons_self)))
  refine append_at (hsz := by show ys.toArray.size ≤ sizeLine; rw [List.size_toArray, Dy.length]; exact hz) hD.1 fun h' hs' hD' => wpAny_pure (k _ ?_)
  refine ⟨nw, h', tk, oC, m₂, ys ++ [v], rfl, F.change hs' hD.2.1 hD.2.2, hn, fun p hp => ?_, hCD, o, off, Dy.append (.cons Dv .nil), hv⟩
  rcases List.mem_cons.mp hp with rfl | hp
  · exact ⟨hs'.extBut _ _ hCD (N _ List.mem_cons_self).1, (N _ List.mem_cons_self).2⟩
  · rcases List.mem_cons.mp hp with rfl | hp
    · exact ⟨hD'.trans (congrArg some (LCg.lst_snoc ys v)), hD.2⟩
    · have z := N p (List.mem_cons.mpr (.inr (List.mem_cons.mpr (.inr hp))))
      exact ⟨hs'.extBut _ _ (off p hp).2 z.1, z.2⟩

theorem cs_test {b : Bool} {Q : Bool → Shared → Prop} {E : Value → Shared → Prop} (hs : Sub I₀ J) (X : CS h₀ L m C D I₀ J ρc out s₀ s) (V : Vars (compEnvC scope cl C env) L m I₀ ρf) (hk : ∀ q ∈ ρc, (compEnvC scope cl C env).kindOf q.1 = some .local)
    (he : ∀ K, Sub I₀ K → Vars (compEnvC scope cl C env) L m K (ρc ++ ρf) → Tr prog w A (compEnvC scope cl C env) h₀ L m K e b)
    (k : ∀ s', CS h₀ L m C D I₀ J ρc out s₀ s' → Q b s') : wpAny (model prog w) A (PySem.isTrue e (compEnvC scope cl C env) (eval e (compEnvC scope cl C env))) Q E s := by
  obtain ⟨nw, h, tk, oC, m₂, ys, rfl, F, hn, N, hCD, o, off, Dy, hv⟩ := X
  have Vk : Vars (compEnvC scope cl C env) L m ((C, oC) :: (nw ++ I₀)) (ρc ++ ρf) := cs_vars (List.mem_cons_self) hn hk (fun q hq => by
    obtain ⟨v, a, b⟩ := hv q hq
    exact ⟨v, a, dat_mono (Sub.cons Sub.rfl) b⟩) (V.mono (Sub.cons (Sub.app Sub.rfl)))
  refine he _ (Sub.cons (Sub.app Sub.rfl)) Vk ((C, oC) :: (D, LCg.lst ys) :: (nw ++ J)) _ Q E (fun p hp => ?_) F N fun h' tk' F' N' => k _ ⟨nw, h', tk', oC, m₂, ys, rfl, F', hn, N', hCD, o, off, Dy, hv⟩
  rcases List.mem_cons.mp hp with rfl | hp
  · exact List.mem_cons_self
  · exact List.mem_cons.mpr (.inr (List.mem_cons.mpr (.inr (Sub.front hs p hp))))

theorem cs_assign {x : PySem.Str} {px : Pos} {v : Value} {Q : PUnit → Shared → Prop} {E : Value → Shared → Prop} (X : CS h₀ L m C D I₀ J ρc out s₀ s) (Dv : DatIn I₀ v d) (hx : (compEnvC scope cl C env).kindOf x = some .local) (hsk : scope.kind = .function)
    (hn : ∀ q ∈ ρc, q.1 ≠ x) (k : ∀ s', CS h₀ L m C D I₀ J ((x, d) :: ρc) out s₀ s' → Q ⟨⟩ s') : wpAny (model prog w) A (assign (.Name x px) (compEnvC scope cl C env) v) Q E s := by
  obtain ⟨nw, h, tk, oC, m₂, ys, rfl, F, hno, N, hCD, o, off, Dy, hv⟩ := X
  have hC := N (C, oC) List.mem_cons_self
  refine wpAny_assign_Name (wpAny_storeName_local hx (hno.ns hC.1) (fun h' hns hs' => k _ ?_) (by simp [compEnvC, relabel, hsk]))
  obtain ⟨oC', e1, e2⟩ := LCg.ns_obj hns
  refine ⟨nw, h', _, oC', upd m₂ x v, ys, rfl, F.change hs' hC.2.1 hC.2.2, e2, fun p hp => ?_, hCD, o, off, Dy, fun q hq => ?_⟩
  · rcases List.mem_cons.mp hp with rfl | hp
    · exact ⟨e1, hC.2⟩
    · have z := N p (List.mem_cons.mpr (.inr hp))
      refine ⟨hs'.extBut _ _ ?_ z.1, z.2⟩
      rcases List.mem_cons.mp hp with rfl | hp
      · exact fun q => hCD q.symm
      · exact (off p hp).1
  · rcases List.mem_cons.mp hq with rfl | hq
    · exact ⟨v, by simp [upd], dat_mono (Sub.app Sub.rfl) Dv⟩
    · obtain ⟨u, a, b⟩ := hv q hq
      exact ⟨u, by simp [upd, hn q hq, a], b⟩

/-- an iterator over a list or a range -/
def PlainIt (o : Obj) : Prop := o.cls = .type "list_iterator" ∨ o.cls = .type "range_iterator"
/-- an iterator stands at I over these data -/
structure Src (prog : Program) (w : World) (A : Around) (h₀ : Heap) (L : Addr) (I₁ J : Led) (I : Addr) (items : List Dat) (h : Heap) : Prop where
  it : ∃ (fp : List Addr) (P : Nat → Value → Prop) (St : Nat → Heap → Prop), Walks prog w A I fp [I] items.length P St ∧ St 0 h ∧ (∀ b ∈ fp, b = I ∨ ∃ o, (b, o) ∈ J) ∧
    (∀ i v, i < items.length → P i v → ∃ d, items[i]? = some d ∧ DatIn I₁ v d) ∧ (∀ i h, St i h → ∃ o, h.get? I = some o ∧ PlainIt o)
  offL : (@Ne Nat L I)
  new : h₀.get? I = none
  off : ∀ p ∈ J, (@Ne Nat p.1 I)

/-- the loop of one clause -/
theorem cs_loop {I : Addr} {items : List Dat} {outs : Dat → List Dat} {k : Nat} {p₀ : Pos} {R : Result → Shared → Prop} {rest : Value → Sem Fin} (S : Src prog w A h₀ L I₀ J I items s.heap) (X : CSn h₀ L m C D I₀ J ρc out s₀ s []) (hs : Sub I₀ J) (hIC : (@Ne Nat I C)) (hID : (@Ne Nat I D))
    (heq : compTurn e k (.ref I) (.ref D) (compEnvC scope cl C env) = (standAt p₀ >>= fun _ => pyNext (.ref I) >>= fun r => match r with | none => pure (.done .next) | some v => rest v))
    (turn : ∀ d ∈ items, ∀ v, DatIn I₀ v d → ∀ (oI : Obj), PlainIt oI → ∀ (out' : List Dat) (s₁ : Shared) (E : Value → Shared → Prop), out'.length + (outs d).length ≤ out.length + (items.flatMap outs).length → CS h₀ L m C D I₀ ((I, oI) :: J) ρc out' s₀ s₁ →
      wpAny (model prog w) A (rest v) (fun fin s' => fin = .again (.compLoop e k (.ref I) (.ref D) (compEnvC scope cl C env)) ∧ CS h₀ L m C D I₀ ((I, oI) :: J) ρc (out' ++ outs d) s₀ s') E s₁)
    (done : ∀ s', CS h₀ L m C D I₀ J ρc (out ++ items.flatMap outs) s₀ s' → R (.ok .next) s')
    (hquiet : (Code.compLoop e k (.ref I) (.ref D) (compEnvC scope cl C env)).quiet = true)
    (hden : (model prog w).den (.compLoop e k (.ref I) (.ref D) (compEnvC scope cl C env)) = ((compTurn e k (.ref I) (.ref D) (compEnvC scope cl C env)).onRaise (fun x => do noteFrame x (compEnvC scope cl C env); theTreesLotGoes x)))
    (hunder : A.under (.compLoop e k (.ref I) (.ref D) (compEnvC scope cl C env)) = A) :
    codeAny (model prog w) A (.compLoop e k (.ref I) (.ref D) (compEnvC scope cl C env)) R s := by
  obtain ⟨⟨fp, P, St, W, hst, hfp, hP, hob⟩, hLI, hI0, hJI⟩ := S
  refine codeAny_loop hquiet (fun j s' => ∃ i nw, i ≤ items.length ∧ j = items.length - i ∧ CSn h₀ L m C D I₀ J ρc (out ++ (items.take i).flatMap outs) s₀ s' nw ∧ (∀ p ∈ nw, (@Ne Nat p.1 I)) ∧ St i s'.heap) (fun j s' hI => ?_) items.length
    ⟨0, [], Nat.zero_le _, rfl, by simpa using X, (fun p hp => absurd hp (by simp)), hst⟩
  obtain ⟨i, nw, hi, rfl, ⟨h, tk, oC, m₂, ys, rfl, F, hn, N, hCD, o, off, Dy, hv⟩, hnw, hst'⟩ := hI
  rw [hunder, hden]
  refine wpAny_noted ?_
  rw [heq]
  refine wpAny_bind (wpAny_standAt (wpAny_bind ?_))
  have offI : ∀ p ∈ ((C, oC) :: (D, LCg.lst ys) :: (nw ++ J) : Led), (@Ne Nat p.1 I) := fun p hp => by
    rcases List.mem_cons.mp hp with rfl | hp
    · exact fun q => hIC q.symm
    · rcases List.mem_cons.mp hp with rfl | hp
      · exact fun q => hID q.symm
      · rcases List.mem_append.mp hp with hp | hp
        · exact hnw p hp
        · exact hJI p hp
  by_cases hlt : i < items.length
  · refine W.item i _ _ _ hlt hst' fun v h' tk' hPv hst2 hk => ?_
    obtain ⟨d, hd, Dv⟩ := hP i v hlt hPv
    have F' := LCg.fr_but F hk hLI hI0
    have N' := LCg.news_but N hk offI
    obtain ⟨oI, hoI, hpl⟩ := hob _ _ hst2
    have hdm : d ∈ items := List.mem_of_getElem? hd
    have hlen : (out ++ (items.take i).flatMap outs).length + (outs d).length ≤ out.length + (items.flatMap outs).length := by
      have e1 : items.take (i + 1) = items.take i ++ [d] := by rw [List.take_add_one, hd]; rfl
      have e2 : (items.flatMap outs) = (items.take (i + 1)).flatMap outs ++ (items.drop (i + 1)).flatMap outs := by rw [← List.flatMap_append, List.take_append_drop]
      rw [e2, e1, List.flatMap_append, List.length_append, List.length_append, List.length_append]
      simp only [List.flatMap_cons, List.flatMap_nil, List.append_nil]
      omega
    refine wpAny_mono (turn d hdm v Dv oI hpl _ _ _ hlen ⟨nw, h', tk', oC, m₂, ys, rfl, F', hn, ?_, hCD, ?_, ?_, Dy, hv⟩) (fun fin s'' hfin => ?_) fun _ _ x => x
    · intro p hp
      rcases List.mem_cons.mp hp with rfl | hp
      · exact N' _ List.mem_cons_self
      · rcases List.mem_cons.mp hp with rfl | hp
        · exact N' _ (List.mem_cons.mpr (.inr List.mem_cons_self))
        · rcases List.mem_append.mp hp with hp | hp
          · exact N' _ (List.mem_cons.mpr (.inr (List.mem_cons.mpr (.inr (List.mem_append.mpr (.inl hp))))))
          · rcases List.mem_cons.mp hp with rfl | hp
            · exact ⟨hoI, fun q => hLI q.symm, hI0⟩
            · exact N' _ (List.mem_cons.mpr (.inr (List.mem_cons.mpr (.inr (List.mem_append.mpr (.inr hp))))))
    · intro q hq p hp
      rcases List.mem_cons.mp hp with rfl | hp
      · exact fun e => hnw q hq e.symm
      · exact o q hq p hp
    · intro p hp
      rcases List.mem_append.mp hp with hp | hp
      · exact off p (List.mem_append.mpr (.inl hp))
      · rcases List.mem_cons.mp hp with rfl | hp
        · exact ⟨hIC, hID⟩
        · exact off p (List.mem_append.mpr (.inr hp))
    · obtain ⟨rfl, nw2, h2, tk2, oC2, m3, ys2, rfl, F2, hn2, N2, hCD2, o2, off2, Dy2, hv2⟩ := hfin
      refine ⟨rfl, items.length - (i + 1), by omega, i + 1, nw2, hlt, rfl, ⟨h2, tk2, oC2, m3, ys2, rfl, F2, hn2, ?_, hCD2, ?_, ?_, ?_, hv2⟩, ?_, ?_⟩
      · intro p hp
        rcases List.mem_cons.mp hp with rfl | hp
        · exact N2 _ List.mem_cons_self
        · rcases List.mem_cons.mp hp with rfl | hp
          · exact N2 _ (List.mem_cons.mpr (.inr List.mem_cons_self))
          · refine N2 _ (List.mem_cons.mpr (.inr (List.mem_cons.mpr (.inr ?_))))
            rcases List.mem_append.mp hp with hp | hp
            · exact List.mem_append.mpr (.inl hp)
            · exact List.mem_append.mpr (.inr (List.mem_cons.mpr (.inr hp)))
      · exact fun q hq p hp => o2 q hq p (List.mem_cons.mpr (.inr hp))
      · intro p hp
        refine off2 p ?_
        rcases List.mem_append.mp hp with hp | hp
        · exact List.mem_append.mpr (.inl hp)
        · exact List.mem_append.mpr (.inr (List.mem_cons.mpr (.inr hp)))
      · have e1 : items.take (i + 1) = items.take i ++ [d] := by rw [List.take_add_one, hd]; rfl
        rw [e1, List.flatMap_append, ← List.append_assoc]
        simpa using Dy2
      · exact fun q hq e => o2 q hq (I, oI) List.mem_cons_self e.symm
      · refine W.frame _ _ _ hst2 fun b hb ob eb => ?_
        rcases hfp b hb with rfl | ⟨ob', hob'⟩
        · have z := (N2 (b, oI) (List.mem_cons.mpr (.inr (List.mem_cons.mpr (.inr (List.mem_append.mpr (.inr List.mem_cons_self))))))).1
          rw [hoI] at eb; cases eb; exact z
        · have z1 := (N' (b, ob') (List.mem_cons.mpr (.inr (List.mem_cons.mpr (.inr (List.mem_append.mpr (.inr hob'))))))).1
          have z2 := (N2 (b, ob') (List.mem_cons.mpr (.inr (List.mem_cons.mpr (.inr (List.mem_append.mpr (.inr (List.mem_cons.mpr (.inr hob'))))))))).1
          have eb' : h'.get? b = some ob := eb
          rw [z1] at eb'; cases eb'; exact z2
  · obtain rfl : i = items.length := Nat.le_antisymm hi (Nat.not_lt.mp hlt)
    refine W.done _ _ _ hst' fun h' tk' hk => ?_
    refine wpAny_pure (done _ ⟨nw, h', tk', oC, m₂, ys, rfl, LCg.fr_but F hk hLI hI0, hn, LCg.news_but N hk offI, hCD, o, off, ?_, hv⟩)
    rw [List.take_length] at Dy; exact Dy
end
end Mine
end
section
/-! part FwH -/
open PySem PySem.W PyProof.Rows PySem.Spec PySem.Calls PyProof.V
set_option maxRecDepth 100000
namespace Mine
section
variable {prog : Program} {w : World} {K : Frag} {p : Program} {loose : List PySem.Str} {mean : ExcName → Option Value} {mg mb : Mp} {A : Around} {env : Env} {h₀ : Heap} {L C D : Addr} {m : Mp} {I I₀ J : Led} {ρc ρf : List (PySem.Str × Dat)} {out items : List Dat} {s₀ s : Shared} {e elt iter : PySem.Expr} {d : Dat} {scope : Scope} {cl : List (PySem.Str × Addr)} {pos : Pos} {k : Nat}

/-- e is walked item by item -/
def It (prog : Program) (w : World) (A : Around) (env : Env) (h₀ : Heap) (L : Addr) (m : Mp) (I : Led) (e : PySem.Expr) (items : List Dat) : Prop :=
  ∀ (J : Led) (s : Shared) (Q E : Value → Shared → Prop), Sub I J → Fr h₀ L s.heap m → News h₀ L s.heap J →
    (∀ a nw h' tk, Fr h₀ L h' m → News h₀ L h' (nw ++ J) → Off nw J → a < h'.objs.size → Src prog w A h₀ L (nw ++ I) (nw ++ J) a items h' → Q (.ref a) { s with heap := h', toks := tk }) →
    wpAny (model prog w) A (eval e env) (fun x s₁ => wpAny (model prog w) A (pyIter x) Q E s₁) E s

theorem it_list (hh : A.handled = none) (h : Ex prog w A env h₀ L m I e (.list items)) : It prog w A env h₀ L m I e items := by
  intro J s Q E hs F N kk
  refine Ex.lst h hs F N fun a vs n nw h' tk F' N' o hm Dv => ?_
  have hl := News.isList N' (mem_up hs hm)
  have hlt : a < h'.objs.size := by obtain ⟨_, e, _⟩ := hl; exact Heap.lt_size e
  refine wpAny_pyIter_list hl ?_
  have up : ∀ b o, h'.get? b = some o → (h'.push { cls := .type "list_iterator", data := .fields #[.ref a, .int 0 0] }).get? b = some o := fun b o e => Heap.get?_push_of_some _ e
  have hlen : vs.toArray.size = items.length := by rw [List.size_toArray, Dv.length]
  refine kk h'.objs.size nw _ _ (F'.keeps up) (N'.grown up) o (by rw [Heap.size_push]; exact Nat.lt_succ_self _) ⟨⟨[h'.objs.size, a], fun i v => vs.toArray[i]? = some v, _, hlen ▸ Walks.list hh h'.objs.size a (Nat.ne_of_lt hlt) vs.toArray, ⟨⟨_, Heap.get?_push_size _ rfl, rfl, rfl⟩, hl.push _⟩, fun b hb => ?_, fun i v hi hv => ?_, fun i h st => ?_⟩, Nat.ne_of_lt F'.ns.lt, next_is_new F', fun p hp => Nat.ne_of_lt (Heap.lt_size (N' p hp).1)⟩
  · rcases List.mem_cons.mp hb with rfl | hb
    · exact .inl rfl
    · rcases List.mem_cons.mp hb with rfl | hb
      · exact .inr ⟨_, mem_up hs hm⟩
      · exact nomatch hb
  · obtain ⟨u, hu, Du⟩ := Dv.get hi
    refine ⟨_, List.getElem?_eq_getElem hi, ?_⟩
    have : vs[i]? = some v := by simpa using hv
    rw [hu] at this; cases this; exact Du
  · obtain ⟨o, e, hc, _⟩ := st.1; exact ⟨o, e, .inl hc⟩

theorem it_range {n : Int} {np : Pos} (S : Site K p loose mean mg mb A h₀ L k) (hns : nsIn K mainGlobals "range" = some none) (hg : env.globals = mainGlobals) (hb : env.builtins = builtinsNs) (hk : env.scope.kind = .function) (hx : env.kindOf "range" = some .globalImplicit)
    (h : Ex prog w A env h₀ L m I e (.int n)) (h0 : 0 ≤ n) (hn : n ≤ 2 ^ 24) (he : starEach [e] env = (false, eval e env) :: starEach [] env := by rfl)
    (hc : eval (.Call (.Name "range" np) [e] [] pos) env = (do callWith pos (← eval (.Name "range" np) env) [] (backTo pos (starEach [e] env)) (backToKw pos (keywordEach [] env))) := by rfl) :
    It prog w A env h₀ L m I (.Call (.Name "range" np) [e] [] pos) ((List.range n.toNat).map fun i : Nat => Dat.int (i : Int)) := by
  intro J s Q E hs F N kk
  refine Call_ (name_builtin S F hns boot_range (by decide) ?_ hg hb hk hx (by decide)) hc
  refine PySem.Pv.callWith_type1 (spliced_more (Ex.int h hs F N fun t h' tk F' N' => spliced_none ?_) he) he
  refine range1_rows F' N' fun h2 tk2 t₁ u₁ v₁ hr F2 N2 up => ?_
  have hsz : Builtin.Range.rangeSize 0 n 1 = ((n.toNat : Nat) : Int) := by rw [rangeSize_nat]; simp
  refine wpAny_pyIter_range hr (small_one (by decide) (by decide) (by omega) (by omega)) ?_
  have up2 : ∀ b o, h2.get? b = some o → (h2.push { cls := .type "range_iterator", data := .fields #[rawInt 0, rawInt (Builtin.Range.rangeSize 0 n 1), rawInt 1] }).get? b = some o := fun b o e => Heap.get?_push_of_some _ e
  have hlen : n.toNat = ((List.range n.toNat).map fun i : Nat => Dat.int (i : Int)).length := by simp
  refine kk h2.objs.size [] _ _ (F2.keeps up2) (N2.grown up2) Off.nil (by rw [Heap.size_push]; exact Nat.lt_succ_self _) ⟨⟨[h2.objs.size], fun i v => ∃ t, v = .int (0 + (i : Int)) t, _, hlen ▸ LCg.range_walks (I := h2.objs.size) S.hd 0 n.toNat, ?_, fun b hb => .inl (List.mem_singleton.mp hb), fun i v hi hv => ?_, fun i h st => ⟨_, st, .inr rfl⟩⟩, Nat.ne_of_lt F2.ns.lt, next_is_new F2, fun p hp => Nat.ne_of_lt (Heap.lt_size (N2 p hp).1)⟩
  · show IsRangeIter _ _ _ _ _
    rw [hsz]; simpa using Heap.get?_push_size _ rfl
  · obtain ⟨t, rfl⟩ := hv
    have hi' : i < n.toNat := by simpa using hi
    exact ⟨.int (i : Int), by simp [hi'], by rw [Int.zero_add]; exact .int _ _⟩

/-- the first clause's start -/
theorem cs_start {I : Addr} {RR : Value → Addr → Result → Shared → Prop} {E : Value → Shared → Prop} (S : Src prog w A h₀ L I₀ J I items s.heap) (hI : I < s.heap.objs.size) (F : Fr h₀ L s.heap m) (N : News h₀ L s.heap J)
    (hcell : ∀ y ∈ scope.names, y.2 ≠ .cell) (hkind : scope.kind = .function)
    (kk : ∀ C D s', CSn h₀ L m C D I₀ J [] [] s s' [] → Src prog w A h₀ L I₀ J I items s'.heap → (@Ne Nat I C) → (@Ne Nat I D) → (∀ p ∈ J, p.1 < D) → h₀.get? C = none → h₀.get? D = none → codeAny (model prog w) A (.compStart e 0 (.ref I) (.ref D) (compEnvC scope cl C env)) (RR (.ref D) C) s') :
    wpAny (model prog w) A (newList []) (fun acc s₃ => wpAny (model prog w) A (newFunctionEnv scope env.globals cl [] env.qual none .none (some env)) (fun cenv s₄ =>
      codeAny (model prog w) A (.compStart e 0 (.ref I) acc { cenv with scope := relabel scope env }) (RR acc cenv.locals) s₄) E s₃) E s := by
  refine wpAny_newObj_type (wpAny_newFunctionEnv hcell (by intro y hy; simp at hy) (fun h₁ hns₁ hsb₁ => ?_) hkind)
  dsimp only at hns₁ hsb₁ ⊢
  generalize hH2 : s.heap.push { cls := .type "list", dict := none, data := .seq ([] : List Value).toArray } = H2 at hns₁ hsb₁ ⊢
  have hC : H2.objs.size = s.heap.objs.size + 1 := by rw [← hH2, Heap.size_push]
  have hDC : s.heap.objs.size ≠ H2.objs.size := by rw [hC]; exact Nat.ne_of_lt (Nat.lt_succ_self _)
  have below : ∀ b, b < s.heap.objs.size → b ≠ H2.objs.size ∧ b ≠ s.heap.objs.size := fun b hb => ⟨by rw [hC]; exact Nat.ne_of_lt (Nat.lt_succ_of_lt hb), Nat.ne_of_lt hb⟩
  have old : ∀ b o, s.heap.get? b = some o → h₁.get? b = some o := fun b o e => hsb₁.extBut b o (below b (Heap.lt_size e)).1 (Heap.get?_push_of_some _ (hH2 ▸ Heap.get?_push_of_some _ e))
  have hacc : h₁.get? s.heap.objs.size = some (LCg.lst []) := hsb₁.extBut _ _ hDC (Heap.get?_push_of_some _ (hH2 ▸ Heap.get?_push_size _ rfl))
  have fresh₀ : ∀ a, s.heap.objs.size ≤ a → h₀.get? a = none := fun a ha => by
    cases e : h₀.get? a with
    | none => rfl
    | some o' => exact absurd (Heap.lt_size (F.keep a o' e)) (Nat.not_lt.mpr ha)
  have hD₀ := fresh₀ _ (Nat.le_refl _)
  have hC₀ : h₀.get? H2.objs.size = none := fresh₀ _ (by rw [hC]; exact Nat.le_succ _)
  obtain ⟨oC, e1, e2⟩ := LCg.ns_obj hns₁
  have hLlt : L < s.heap.objs.size := F.ns.lt
  refine kk H2.objs.size s.heap.objs.size _ ⟨h₁, _, oC, _, [], rfl, F.keeps old, e2, fun p hp => ?_, fun q => hDC q.symm, Off.nil, fun p hp => ?_, .nil, fun _ h => nomatch h⟩ ?_ (below I hI).1 (below I hI).2 (fun p hp => Heap.lt_size (N p hp).1) hC₀ hD₀
  · rcases List.mem_cons.mp hp with rfl | hp
    · exact ⟨e1, fun q => (below L hLlt).1 q.symm, hC₀⟩
    · rcases List.mem_cons.mp hp with rfl | hp
      · exact ⟨hacc, fun q => (below L hLlt).2 q.symm, hD₀⟩
      · exact ⟨old _ _ (N p hp).1, (N p hp).2⟩
  · exact below _ (Heap.lt_size (N p hp).1)
  · obtain ⟨⟨fp, P, St, W, hst, hfp, hP, hob⟩, a, b, c⟩ := S
    refine ⟨⟨fp, P, St, W, W.frame _ _ _ hst fun b hb o e => old b o e, hfp, hP, hob⟩, a, b, c⟩
end
end Mine
end
section
/-! part FwI -/
open PySem PySem.W PyProof.Rows PySem.Spec PySem.Calls PyProof.V
set_option maxRecDepth 100000
namespace Mine
section
variable {prog : Program} {w : World} {K : Frag} {p : Program} {loose : List PySem.Str} {mean : ExcName → Option Value} {mg mb : Mp} {A : Around} {env : Env} {h₀ : Heap} {L C D : Addr} {m : Mp} {I I₀ J : Led} {ρc ρf : List (PySem.Str × Dat)} {out items : List Dat} {s₀ s : Shared} {e elt iter : PySem.Expr} {d : Dat} {scope : Scope} {cl : List (PySem.Str × Addr)} {pos : Pos} {k : Nat}

def tests (ifs : List PySem.Expr) (env : Env) : Sem Bool := forIn ifs true fun c r => if r = true then do let ok ← PySem.isTrue c env (eval c env); pure (ForInStep.yield ok) else pure (ForInStep.yield r)
def emit (elt : PySem.Expr) (D : Addr) (env : Env) : Sem PUnit := eval elt env >>= fun x => call (.builtin "list.append") [.ref D, x] >>= fun _ => pure ⟨⟩
theorem turn1_eq (target : PySem.Expr) (ifs : List PySem.Expr) (it : Addr) (D : Addr) (env : Env) :
    compTurn (.ListComp elt [⟨target, iter, ifs, 0⟩] scope pos) 0 (.ref it) (.ref D) env = (standAt iter.pos >>= fun _ => pyNext (.ref it) >>= fun r => match r with
      | none => pure (.done .next)
      | some v => letOwnedTupleGo target (.ref it) v >>= fun _ => assign target env v >>= fun _ => tests ifs env >>= fun ok =>
        if ok = true then emit elt D env >>= fun _ => again (.compLoop (.ListComp elt [⟨target, iter, ifs, 0⟩] scope pos) 0 (.ref it) (.ref D) env)
        else again (.compLoop (.ListComp elt [⟨target, iter, ifs, 0⟩] scope pos) 0 (.ref it) (.ref D) env)) := by rfl
theorem den_eq (M : Model) (hM : M = model prog w) (elt : PySem.Expr) (gens : List Comprehension) (k : Nat) (it acc : Value) (env : Env) : M.den (.compLoop (.ListComp elt gens scope pos) k it acc env) = ((compTurn (.ListComp elt gens scope pos) k it acc env).onRaise (fun x => do noteFrame x env; theTreesLotGoes x)) := by subst hM; rfl
theorem under_eq (elt : PySem.Expr) (gens : List Comprehension) (k : Nat) (it acc : Value) (env : Env) : A.under (.compLoop (.ListComp elt gens scope pos) k it acc env) = A := Around.under_of_weight (by rfl) (by rfl)
theorem quiet_eq (elt : PySem.Expr) (gens : List Comprehension) (k : Nat) (it acc : Value) (env : Env) : (Code.compLoop (.ListComp elt gens scope pos) k it acc env).quiet = true := by rfl

/-- how a clause takes its item: the names it binds -/
def Takes (prog : Program) (w : World) (A : Around) (env : Env) (h₀ : Heap) (L : Addr) (m : Mp) (scope : Scope) (cl : List (PySem.Str × Addr)) (target : PySem.Expr) (ρc : List (PySem.Str × Dat)) (d : Dat) (ρ' : List (PySem.Str × Dat)) : Prop :=
  ∀ (C D it : Addr) (I₀ J : Led) (oI : Obj) (out : List Dat) (s₀ s : Shared) (v : Value) (Q : PUnit → Shared → Prop) (E : Value → Shared → Prop), PlainIt oI → CS h₀ L m C D I₀ ((it, oI) :: J) ρc out s₀ s → Sub I₀ J → DatIn I₀ v d →
    (∀ s', CS h₀ L m C D I₀ ((it, oI) :: J) (ρ' ++ ρc) out s₀ s' → Q ⟨⟩ s') →
    wpAny (model prog w) A (letOwnedTupleGo target (.ref it) v) (fun _ s₁ => wpAny (model prog w) A (assign target (compEnvC scope cl C env) v) Q E s₁) E s

theorem takes_name {x : PySem.Str} {px : Pos} (hx : ∀ C, (compEnvC scope cl C env).kindOf x = some .local) (hsk : scope.kind = .function) (hn : ((ρc.map (·.1)).all fun y => y != x) = true) : Takes prog w A env h₀ L m scope cl (.Name x px) ρc d [(x, d)] := by
  intro C D it I₀ J oI out s₀ s v Q E hpl X hs Dv kk
  refine wpAny_pure ?_
  refine cs_assign X Dv (hx C) hsk (fun q hq => ?_) kk
  rw [List.all_map] at hn
  simpa using List.all_eq_true.mp hn q hq

theorem go_plain {it t : Addr} {oI : Obj} {elts : List PySem.Expr} {kk : Nat} {tp : Pos} {Q : PUnit → Shared → Prop} {E : Value → Shared → Prop} (ho : s.heap.get? it = some oI) (hp : PlainIt oI) (k : Q ⟨⟩ s) : wpAny (model prog w) A (letOwnedTupleGo (.Tuple elts kk tp) (.ref it) (.ref t)) Q E s := by
  show wpAny _ _ (load it >>= _) _ _ s
  refine wpAny_bind (wpAny_load ho ?_)
  obtain ⟨cls, dd, data, sl⟩ := oI
  rcases hp with h | h
  · simp only at h; subst h
    cases data <;> exact wpAny_pure k
  · simp only at h; subst h
    cases data <;> exact wpAny_pure k
theorem takes_pair {a b : PySem.Str} {pa pb tp : Pos} {kk : Nat} {d1 d2 : Dat} (hh : A.handled = none) (ha : ∀ C, (compEnvC scope cl C env).kindOf a = some .local) (hb : ∀ C, (compEnvC scope cl C env).kindOf b = some .local) (hsk : scope.kind = .function) (hab : (a != b) = true) :
    Takes prog w A env h₀ L m scope cl (.Tuple [.Name a pa, .Name b pb] kk tp) [] (.tuple [d1, d2]) [(a, d1), (b, d2)] := by
  intro C D it I₀ J oI out s₀ s v Q E hpl X hs Dv kq
  cases Dv with
  | tuple hm Da =>
    rename_i t vs k0
    cases Da with
    | cons D1 r1 =>
      cases r1 with
      | cons D2 r2 =>
        cases r2 with
        | nil =>
          rename_i x y
          obtain ⟨nw, h, tk, oC, m₂, ys, rfl, F, hno, N, hCD, o, off, Dy, hv⟩ := X
          have NI := N (it, oI) (List.mem_cons.mpr (.inr (List.mem_cons.mpr (.inr (List.mem_append.mpr (.inr List.mem_cons_self))))))
          have NT := N (t, _) (List.mem_cons.mpr (.inr (List.mem_cons.mpr (.inr (List.mem_append.mpr (.inr (List.mem_cons.mpr (.inr (hs _ hm)))))))))
          have hC := N (C, oC) List.mem_cons_self
          refine go_plain NI.1 hpl ?_
          refine kcp_assign hh ⟨_, NT.1, rfl, _, rfl⟩ (ha C) (hb C) (by simp [compEnvC, relabel, hsk]) (hno.ns hC.1) fun h' tk' hns hk => kq _ ?_
          obtain ⟨oC', e1, e2⟩ := LCg.ns_obj hns
          have hkeep : ∀ b o, b ∉ [C] → h.get? b = some o → h'.get? b = some o := fun b o hb e => hk b o (fun q => hb (List.mem_singleton.mpr q)) e
          have hne : a ≠ b := by simpa using hab
          refine ⟨nw, h', tk', oC', _, ys, rfl, LCg.fr_but F hkeep (fun e => hC.2.1 e.symm) hC.2.2, e2, fun p hp => ?_, hCD, o, off, Dy, fun q hq => ?_⟩
          · rcases List.mem_cons.mp hp with rfl | hp
            · exact ⟨e1, hC.2⟩
            · have z := N p (List.mem_cons.mpr (.inr hp))
              refine ⟨hk _ _ ?_ z.1, z.2⟩
              rcases List.mem_cons.mp hp with rfl | hp
              · exact fun q => hCD q.symm
              · exact (off p hp).1
          · rw [List.append_nil] at hq
            rcases List.mem_cons.mp hq with rfl | hq
            · exact ⟨x, by simp [hne], dat_mono (Sub.app Sub.rfl) D1⟩
            · rw [List.mem_singleton.mp hq]
              exact ⟨y, by simp, dat_mono (Sub.app Sub.rfl) D2⟩

/-- the tests -/
theorem cs_tests0 {Q : Bool → Shared → Prop} {E : Value → Shared → Prop} (k : Q true s) : wpAny (model prog w) A (tests [] env) Q E s := wpAny_tests_nil k
theorem cs_tests1 {c : PySem.Expr} {Q : Bool → Shared → Prop} {E : Value → Shared → Prop} (h : wpAny (model prog w) A (PySem.isTrue c env (eval c env)) Q E s) : wpAny (model prog w) A (tests [c] env) Q E s := wpAny_tests_one h

/-- what a turn's tests say -/
def Asks (prog : Program) (w : World) (A : Around) (env : Env) (h₀ : Heap) (L : Addr) (m : Mp) (scope : Scope) (cl : List (PySem.Str × Addr)) (ifs : List PySem.Expr) (ρ : List (PySem.Str × Dat)) (b : Bool) : Prop :=
  (ifs = [] ∧ b = true) ∨ ∃ c, ifs = [c] ∧ ∀ C K, Vars (compEnvC scope cl C env) L m K ρ → Tr prog w A (compEnvC scope cl C env) h₀ L m K c b
theorem cs_asks {ifs : List PySem.Expr} {b : Bool} {Q : Bool → Shared → Prop} {E : Value → Shared → Prop} (hs : Sub I₀ J) (X : CS h₀ L m C D I₀ J ρc out s₀ s) (V : Vars (compEnvC scope cl C env) L m I₀ ρf) (hk : ∀ q ∈ ρc, (compEnvC scope cl C env).kindOf q.1 = some .local)
    (ha : Asks prog w A env h₀ L m scope cl ifs (ρc ++ ρf) b) (k : ∀ s', CS h₀ L m C D I₀ J ρc out s₀ s' → Q b s') : wpAny (model prog w) A (tests ifs (compEnvC scope cl C env)) Q E s := by
  rcases ha with ⟨rfl, rfl⟩ | ⟨c, rfl, h⟩
  · exact cs_tests0 (k s X)
  · exact cs_tests1 (cs_test hs X V hk (fun K _ VV => h C K VV) k)

/-- the first clause is started -/
theorem start0 {gens : List Comprehension} {target : PySem.Expr} {ifs : List PySem.Expr} {it : Addr} {R : Result → Shared → Prop} (S : Src prog w A h₀ L I₀ J it items s.heap)
    (h0 : codeAny (model prog w) A (.compLoop (.ListComp elt (⟨target, iter, ifs, 0⟩ :: gens) scope pos) 0 (.ref it) (.ref D) env) R s) :
    codeAny (model prog w) A (.compStart (.ListComp elt (⟨target, iter, ifs, 0⟩ :: gens) scope pos) 0 (.ref it) (.ref D) env) R s := by
  obtain ⟨⟨fp, P, St, W, hst, _⟩, _⟩ := S
  exact codeAny_compStart_list h0 (W.self 0 _ _ _ hst h0)

theorem flat_if {α β : Type} (t : α → Bool) (f : α → β) : ∀ l : List α, l.flatMap (fun d => if t d then [f d] else []) = (l.filter t).map f
  | [] => rfl
  | a :: r => by
    have ih := flat_if t f r
    rw [List.flatMap_cons, ih, List.filter_cons]
    cases t a <;> simp
/-- one clause: all of it behind the first iterable -/
theorem comp1_core {target : PySem.Expr} {ifs : List PySem.Expr} {f : Dat → Dat} {t : Dat → Bool} {bs : Dat → List (PySem.Str × Dat)} {it : Addr} {RR : Value → Addr → Result → Shared → Prop} {E : Value → Shared → Prop}
    (S : Src prog w A h₀ L I₀ J it items s.heap) (hI : it < s.heap.objs.size) (F : Fr h₀ L s.heap m) (N : News h₀ L s.heap J) (hs : Sub I₀ J) (hcell : ∀ y ∈ scope.names, y.2 ≠ .cell) (hkind : scope.kind = .function)
    (V : ∀ C, Vars (compEnvC scope cl C env) L m I₀ ρf) (htk : ∀ d ∈ items, Takes prog w A env h₀ L m scope cl target [] d (bs d)) (hbk : ∀ d ∈ items, ∀ C, ∀ q ∈ bs d, (compEnvC scope cl C env).kindOf q.1 = some .local)
    (hask : ∀ d ∈ items, Asks prog w A env h₀ L m scope cl ifs (bs d ++ ρf) (t d)) (helt : ∀ d ∈ items, t d = true → ∀ C K, Sub I₀ K → Vars (compEnvC scope cl C env) L m K (bs d ++ ρf) → Ex prog w A (compEnvC scope cl C env) h₀ L m K elt (f d))
    (hz : items.length ≤ sizeLine)
    (kk : ∀ C D s', CS h₀ L m C D I₀ J [] ((items.filter t).map f) s s' → (∀ p ∈ J, p.1 < D) → h₀.get? C = none → h₀.get? D = none → RR (.ref D) C (.ok .next) s') :
    wpAny (model prog w) A (newList []) (fun acc s₃ => wpAny (model prog w) A (newFunctionEnv scope env.globals cl [] env.qual none .none (some env)) (fun cenv s₄ =>
      codeAny (model prog w) A (.compStart (.ListComp elt [⟨target, iter, ifs, 0⟩] scope pos) 0 (.ref it) acc { cenv with scope := relabel scope env }) (RR acc cenv.locals) s₄) E s₃) E s := by
  refine cs_start S hI F N hcell hkind fun C D s' X S' hIC hID hlt hC₀ hD₀ => start0 S' ?_
  have hfl := flat_if t f items
  refine cs_loop (outs := fun d => if t d then [f d] else []) S' X hs hIC hID (turn1_eq target ifs it D _) (fun d hd v Dv oI hpl out' s₁ E' hlen X₁ => ?_) (fun s'' X₂ => kk C D s'' ?_ hlt hC₀ hD₀) (quiet_eq ..) (den_eq _ rfl ..) (under_eq ..)
  · rw [hfl] at hlen
    have hlen' : out'.length ≤ sizeLine := by
      have := List.length_filter_le t items
      rw [List.length_map, List.length_nil] at hlen; omega
    refine wpAny_bind (wpAny_mono (htk d hd C D it I₀ J oI out' s s₁ v _ E' hpl X₁ hs Dv fun s2 X2 => ?_) (fun _ _ h => wpAny_bind h) fun _ _ x => x)
    rw [List.append_nil] at X2
    refine wpAny_bind (cs_asks (Sub.cons hs) X2 (V C) (hbk d hd C) (hask d hd) fun s3 X3 => ?_)
    cases ht : t d with
    | true =>
      rw [if_pos rfl]
      refine wpAny_bind (cs_emit (Sub.cons hs) X3 (V C) (hbk d hd C) (helt d hd ht C) hlen' fun s4 X4 => ?_)
      exact wpAny_pure ⟨rfl, X4.less fun _ h => nomatch h⟩
    | false =>
      rw [if_neg Bool.false_ne_true]
      refine wpAny_pure ⟨rfl, ?_⟩
      rw [if_neg Bool.false_ne_true, List.append_nil]
      exact X3.less fun _ h => nomatch h
  · rw [hfl] at X₂; exact X₂

-- two clauses
variable {iter2 : PySem.Expr}
abbrev two (elt target iter : PySem.Expr) (ifs : List PySem.Expr) (target2 iter2 : PySem.Expr) (scope : Scope) (pos : Pos) : PySem.Expr := .ListComp elt [⟨target, iter, ifs, 0⟩, ⟨target2, iter2, [], 0⟩] scope pos
theorem turn20_eq (target target2 : PySem.Expr) (ifs : List PySem.Expr) (it : Addr) (D : Addr) (env : Env) :
    compTurn (two elt target iter ifs target2 iter2 scope pos) 0 (.ref it) (.ref D) env = (standAt iter.pos >>= fun _ => pyNext (.ref it) >>= fun r => match r with
      | none => pure (.done .next)
      | some v => letOwnedTupleGo target (.ref it) v >>= fun _ => assign target env v >>= fun _ => tests ifs env >>= fun ok =>
        if ok = true then eval iter2 env >>= fun x => standAt iter2.pos >>= fun _ => foldedSetIterable iter2 env x >>= fun x => holding [x] (pyIter x) >>= fun it2 => runOwn (.compStart (two elt target iter ifs target2 iter2 scope pos) 1 it2 (.ref D) env) env >>= fun _ => again (.compLoop (two elt target iter ifs target2 iter2 scope pos) 0 (.ref it) (.ref D) env)
        else again (.compLoop (two elt target iter ifs target2 iter2 scope pos) 0 (.ref it) (.ref D) env)) := by rfl
theorem turn21_eq (target target2 : PySem.Expr) (ifs : List PySem.Expr) (it : Addr) (D : Addr) (env : Env) :
    compTurn (two elt target iter ifs target2 iter2 scope pos) 1 (.ref it) (.ref D) env = (standAt iter2.pos >>= fun _ => pyNext (.ref it) >>= fun r => match r with
      | none => pure (.done .next)
      | some v => letOwnedTupleGo target2 (.ref it) v >>= fun _ => assign target2 env v >>= fun _ => tests [] env >>= fun ok =>
        if ok = true then emit elt D env >>= fun _ => again (.compLoop (two elt target iter ifs target2 iter2 scope pos) 1 (.ref it) (.ref D) env)
        else again (.compLoop (two elt target iter ifs target2 iter2 scope pos) 1 (.ref it) (.ref D) env)) := by rfl
theorem start1 {target target2 : PySem.Expr} {ifs : List PySem.Expr} {it : Addr} {R : Result → Shared → Prop} (S : Src prog w A h₀ L I₀ J it items s.heap)
    (h0 : codeAny (model prog w) A (.compLoop (two elt target iter ifs target2 iter2 scope pos) 1 (.ref it) (.ref D) env) R s) :
    codeAny (model prog w) A (.compStart (two elt target iter ifs target2 iter2 scope pos) 1 (.ref it) (.ref D) env) R s := by
  obtain ⟨⟨fp, P, St, W, hst, _⟩, _⟩ := S
  have h : wpAny (model prog w) A (pyIter (.ref it)) (fun it' s' => codeAny (model prog w) A (.compLoop (two elt target iter ifs target2 iter2 scope pos) 1 it' (.ref D) env) R s') (notedBy (model prog w) A env fun x s' => R (.error x) s') s := W.self 0 _ _ _ hst h0
  refine codeAny_of_tree ?_
  rw [Around.under_of_weight (by rfl) (by rfl)]
  show wpAny _ _ ((compStart (two elt target iter ifs target2 iter2 scope pos) 1 (.ref it) (.ref D) env).onRaise (fun x => do noteFrame x env; standAt theWindowsPlace)) _ _ s
  refine wpAny_notedAt ?_
  unfold compStart
  show wpAny _ _ (ask >>= _) _ _ s
  refine wpAny_bind (wpAny_askSetting (wpAny_ite ?_))
  split
  · first
      | exact wpAny_bind (wpAny_pure (wpAny_pure (And.intro rfl h0)))
      | exact wpAny_pure (And.intro rfl h0)
  · first
      | exact wpAny_bind (wpAny_rule (wpAny_bind (wpAny_standAt (wpAny_bind (wpAny_mono h (fun it' s' h' => wpAny_pure (And.intro rfl h')) fun _ _ x => x)))))
      | (refine wpAny_bind (wpAny_rule ?_); show wpAny _ _ (standAt iter2.pos >>= _) _ _ s; exact wpAny_bind (wpAny_standAt (wpAny_bind (wpAny_mono h (fun it' s' h' => wpAny_pure (And.intro rfl h')) fun _ _ x => x))))

theorem flat_one {α β : Type} (g : α → β) : ∀ l : List α, l.flatMap (fun d => [g d]) = l.map g
  | [] => rfl
  | a :: r => by rw [List.flatMap_cons, flat_one g r]; rfl
theorem comp2_core {target target2 : PySem.Expr} {ifs : List PySem.Expr} {items2 : Dat → List Dat} {f : Dat → Dat → Dat} {t : Dat → Bool} {bs : Dat → List (PySem.Str × Dat)} {bs2 : Dat → Dat → List (PySem.Str × Dat)} {it : Addr} {RR : Value → Addr → Result → Shared → Prop} {E : Value → Shared → Prop}
    (hh : A.handled = none) (S : Src prog w A h₀ L I₀ J it items s.heap) (hI : it < s.heap.objs.size) (F : Fr h₀ L s.heap m) (N : News h₀ L s.heap J) (hs : Sub I₀ J) (hcell : ∀ y ∈ scope.names, y.2 ≠ .cell) (hkind : scope.kind = .function)
    (V : ∀ C, Vars (compEnvC scope cl C env) L m I₀ ρf) (htk : ∀ d ∈ items, Takes prog w A env h₀ L m scope cl target [] d (bs d)) (hbk : ∀ d ∈ items, ∀ C, ∀ q ∈ bs d, (compEnvC scope cl C env).kindOf q.1 = some .local)
    (hask : ∀ d ∈ items, Asks prog w A env h₀ L m scope cl ifs (bs d ++ ρf) (t d)) (hit : ∀ d ∈ items, t d = true → ∀ C K, Vars (compEnvC scope cl C env) L m K (bs d ++ ρf) → Ex prog w A (compEnvC scope cl C env) h₀ L m K iter2 (.list (items2 d)))
    (htk2 : ∀ d ∈ items, t d = true → ∀ d2 ∈ items2 d, Takes prog w A env h₀ L m scope cl target2 (bs d) d2 (bs2 d d2)) (hbk2 : ∀ d ∈ items, t d = true → ∀ d2 ∈ items2 d, ∀ C, ∀ q ∈ bs2 d d2, (compEnvC scope cl C env).kindOf q.1 = some .local)
    (helt : ∀ d ∈ items, t d = true → ∀ d2 ∈ items2 d, ∀ C K, Vars (compEnvC scope cl C env) L m K ((bs2 d d2 ++ bs d) ++ ρf) → Ex prog w A (compEnvC scope cl C env) h₀ L m K elt (f d d2))
    (hz : (items.flatMap fun d => if t d then (items2 d).map (f d) else []).length ≤ sizeLine) (hf2 : ∀ env x, foldedSetIterable iter2 env x = pure x)
    (kk : ∀ C D s', CS h₀ L m C D I₀ J [] (items.flatMap fun d => if t d then (items2 d).map (f d) else []) s s' → (∀ p ∈ J, p.1 < D) → h₀.get? C = none → h₀.get? D = none → RR (.ref D) C (.ok .next) s') :
    wpAny (model prog w) A (newList []) (fun acc s₃ => wpAny (model prog w) A (newFunctionEnv scope env.globals cl [] env.qual none .none (some env)) (fun cenv s₄ =>
      codeAny (model prog w) A (.compStart (two elt target iter ifs target2 iter2 scope pos) 0 (.ref it) acc { cenv with scope := relabel scope env }) (RR acc cenv.locals) s₄) E s₃) E s := by
  refine cs_start S hI F N hcell hkind fun C D s' X S' hIC hID hlt hC₀ hD₀ => start0 S' ?_
  refine cs_loop (outs := fun d => if t d then (items2 d).map (f d) else []) S' X hs hIC hID (turn20_eq target target2 ifs it D _) (fun d hd v Dv oI hpl out' s₁ E' hlen X₁ => ?_) (fun s'' X₂ => kk C D s'' X₂ hlt hC₀ hD₀) (quiet_eq ..) (den_eq _ rfl ..) (under_eq ..)
  refine wpAny_bind (wpAny_mono (htk d hd C D it I₀ J oI out' s s₁ v _ E' hpl X₁ hs Dv fun s2 X2 => ?_) (fun _ _ h => wpAny_bind h) fun _ _ x => x)
  rw [List.append_nil] at X2
  refine wpAny_bind (cs_asks (Sub.cons hs) X2 (V C) (hbk d hd C) (hask d hd) fun s3 X3 => ?_)
  cases ht : t d with
  | false =>
    rw [if_neg Bool.false_ne_true]
    refine wpAny_pure ⟨rfl, ?_⟩
    rw [if_neg Bool.false_ne_true, List.append_nil]
    exact X3.less fun _ h => nomatch h
  | true =>
    rw [if_pos rfl]
    rw [ht, if_pos rfl, List.length_map] at hlen
    refine wpAny_bind (cs_eval (Sub.cons hs) X3 (V C) (hbk d hd C) (fun K _ VV => hit d hd ht C K VV) fun v h tk oC m₂ ys nw F3 hn N3 hCD o off Dy hv Dv3 => ?_)
    refine wpAny_bind (wpAny_standAt (wpAny_bind (wpAny_of_eq (hf2 _ _) (wpAny_bind (wpAny_holding ?_)))))
    cases Dv3 with
    | list hm Dr =>
      rename_i a vs n
      have hsub : Sub (nw ++ I₀) (nw ++ ((it, oI) :: J)) := Sub.front (Sub.cons hs)
      have hma := hsub _ hm
      have hl := News.isList N3 (List.mem_cons.mpr (.inr (List.mem_cons.mpr (.inr hma))))
      have hlt2 : a < h.objs.size := by obtain ⟨_, e, _⟩ := hl; exact Heap.lt_size e
      refine wpAny_pyIter_list hl ?_
      have up : ∀ b o, h.get? b = some o → (h.push { cls := .type "list_iterator", data := .fields #[.ref a, .int 0 0] }).get? b = some o := fun b o e => Heap.get?_push_of_some _ e
      have hlen2 : vs.toArray.size = (items2 d).length := by rw [List.size_toArray, Dr.length]
      have S2 : Src prog w A h₀ L (nw ++ I₀) (nw ++ ((it, oI) :: J)) h.objs.size (items2 d) (h.push { cls := .type "list_iterator", data := .fields #[.ref a, .int 0 0] }) := by
        refine ⟨⟨[h.objs.size, a], fun i v => vs.toArray[i]? = some v, _, hlen2 ▸ Walks.list hh h.objs.size a (Nat.ne_of_lt hlt2) vs.toArray, ⟨⟨_, Heap.get?_push_size _ rfl, rfl, rfl⟩, hl.push _⟩, fun b hb => ?_, fun i v hi hv => ?_, fun i h st => ?_⟩, Nat.ne_of_lt F3.ns.lt, next_is_new F3, fun p hp => Nat.ne_of_lt (Heap.lt_size (N3 p (List.mem_cons.mpr (.inr (List.mem_cons.mpr (.inr hp))))).1)⟩
        · rcases List.mem_cons.mp hb with rfl | hb
          · exact .inl rfl
          · rcases List.mem_cons.mp hb with rfl | hb
            · exact .inr ⟨_, hma⟩
            · exact nomatch hb
        · obtain ⟨u, hu, Du⟩ := Dr.get hi
          refine ⟨_, List.getElem?_eq_getElem hi, ?_⟩
          have : vs[i]? = some v := by simpa using hv
          rw [hu] at this; cases this; exact Du
        · obtain ⟨o, e, hc, _⟩ := st.1; exact ⟨o, e, .inl hc⟩
      have hmark : A.mark none = A := by cases A; rfl
      refine wpAny_bind (wpAny_runOwn (env := compEnvC scope cl C env) (hmark.symm ▸ start1 S2 ?_))
      have X4 : CSn h₀ L m C D (nw ++ I₀) (nw ++ ((it, oI) :: J)) (bs d) out' s { s with heap := h.push { cls := .type "list_iterator", data := .fields #[.ref a, .int 0 0] }, toks := tk } [] :=
        ⟨_, _, oC, m₂, ys, rfl, F3.keeps up, hn, N3.grown up, hCD, Off.nil, off, Dy, hv⟩
      refine cs_loop (outs := fun d2 => [f d d2]) S2 X4 hsub (fun q => Nat.lt_irrefl _ (q ▸ Heap.lt_size (N3 (C, oC) List.mem_cons_self).1)) (fun q => Nat.lt_irrefl _ (q ▸ Heap.lt_size (N3 (D, LCg.lst ys) (List.mem_cons.mpr (.inr List.mem_cons_self))).1))
        (turn21_eq target target2 ifs _ D _) (fun d2 hd2 v2 Dv2 oI2 hpl2 out2 s5 E5 hlen5 X5 => ?_) (fun s6 X6 => ?_) (quiet_eq ..) (den_eq _ rfl ..) (under_eq ..)
      · refine wpAny_bind (wpAny_mono (htk2 d hd ht d2 hd2 C D _ _ _ oI2 out2 s s5 v2 _ E5 hpl2 X5 hsub Dv2 fun s7 X7 => ?_) (fun _ _ h => wpAny_bind h) fun _ _ x => x)
        refine wpAny_bind (cs_tests0 ?_)
        rw [if_pos rfl]
        have hfl : ((items2 d).flatMap fun d2 => [f d d2]).length = (items2 d).length := by rw [flat_one, List.length_map]
        rw [hfl] at hlen5
        have hz2 : out2.length ≤ sizeLine := by
          have : (items.flatMap fun d => if t d then (items2 d).map (f d) else []).length ≤ sizeLine := hz
          simp only [List.length_nil, Nat.zero_add] at hlen
          simp only [List.length_cons, List.length_nil] at hlen5
          omega
        refine wpAny_bind (cs_emit (Sub.cons hsub) X7 ((V C).mono (Sub.app Sub.rfl)) (fun q hq => ?_) (fun K _ VV => helt d hd ht d2 hd2 C K VV) hz2 fun s8 X8 => ?_)
        · rcases List.mem_append.mp hq with hq | hq
          · exact hbk2 d hd ht d2 hd2 C q hq
          · exact hbk d hd C q hq
        · exact wpAny_pure ⟨rfl, X8.less fun q hq => List.mem_append.mpr (.inr hq)⟩
      · refine wpAny_pure ⟨rfl, ?_⟩
        rw [if_pos rfl]
        have hfl : ((items2 d).flatMap fun d2 => [f d d2]) = (items2 d).map (f d) := flat_one _ _
        rw [hfl] at X6
        obtain ⟨nw6, h6, tk6, oC6, m6, ys6, e6, F6, hn6, N6, hCD6, o6, off6, Dy6, hv6⟩ := X6
        refine ⟨nw6 ++ nw, h6, tk6, oC6, m6, ys6, e6, F6, hn6, by rw [List.append_assoc]; exact N6, hCD6, o6.app o, by rw [List.append_assoc]; exact off6, by rw [List.append_assoc]; exact Dy6, fun _ h => nomatch h⟩
end
end Mine
end
section
/-! part FwJ -/
open PySem PySem.W PyProof.Rows PySem.Spec PySem.Calls PyProof.V
set_option maxRecDepth 100000
namespace Mine
section
variable {prog : Program} {w : World} {K : Frag} {p : Program} {loose : List PySem.Str} {mean : ExcName → Option Value} {mg mb : Mp} {A : Around} {env : Env} {h₀ : Heap} {L C D : Addr} {m : Mp} {I I₀ J n : Led} {ρ ρc ρf : List (PySem.Str × Dat)} {out items : List Dat} {s₀ s : Shared} {e elt iter iter2 : PySem.Expr} {d r : Dat} {scope : Scope} {cl : List (PySem.Str × Addr)} {pos : Pos} {k : Nat}

/-- a comprehension's list is out, wherever it goes -/
def IsComp (prog : Program) (w : World) (A : Around) (env : Env) (h₀ : Heap) (L : Addr) (m : Mp) (I : Led) (e : PySem.Expr) (scope : Scope) (fpos : Pos) (first : Sem Value) (out : List Dat) : Prop :=
  ∀ (use : Option (Value → Sem Unit)) (J : Led) (s : Shared) (Q E : Value → Shared → Prop), Sub I J → Fr h₀ L s.heap m → News h₀ L s.heap J →
    (∀ C D nw h' tk ys oC m₂, Fr h₀ L h' m → News h₀ L h' ((C, oC) :: (D, LCg.lst ys) :: (nw ++ J)) → LCg.NsObj oC m₂ → (@Ne Nat C D) → Off nw J → (∀ p ∈ nw ++ J, (@Ne Nat p.1 C) ∧ (@Ne Nat p.1 D)) → DatAll (nw ++ I) ys out →
      h₀.get? C = none → h₀.get? D = none → compPost (model prog w) A E use Q (.ref D) C (.ok .next) { s with heap := h', toks := tk }) →
    wpAny (model prog w) A (comprehension e scope env fpos (newList []) false first use) Q E s

theorem comp1_is {target : PySem.Expr} {ifs : List PySem.Expr} {f : Dat → Dat} {t : Dat → Bool} {bs : Dat → List (PySem.Str × Dat)} {fpos : Pos}
    (hit : It prog w A env h₀ L m I iter items) (hclos : closureFor scope env = pure cl) (hcell : ∀ y ∈ scope.names, y.2 ≠ .cell) (hkind : scope.kind = .function)
    (hnames : ∀ x ∈ scope.names, x.2 = .local → scope.names.lookup x.1 = some .local) (hfold : ∀ x, foldedSetIterable iter env x = pure x)
    (V : ∀ C, Vars (compEnvC scope cl C env) L m I ρf) (htk : ∀ d ∈ items, Takes prog w A env h₀ L m scope cl target [] d (bs d)) (hbk : ∀ d ∈ items, ∀ C, ∀ q ∈ bs d, (compEnvC scope cl C env).kindOf q.1 = some .local)
    (hask : ∀ d ∈ items, Asks prog w A env h₀ L m scope cl ifs (bs d ++ ρf) (t d)) (helt : ∀ d ∈ items, t d = true → ∀ C K, Sub I K → Vars (compEnvC scope cl C env) L m K (bs d ++ ρf) → Ex prog w A (compEnvC scope cl C env) h₀ L m K elt (f d))
    (hz : items.length ≤ sizeLine) :
    IsComp prog w A env h₀ L m I (.ListComp elt [⟨target, iter, ifs, 0⟩] scope pos) scope fpos (eval iter env) ((items.filter t).map f) := by
  intro use J s Q E hs F N kk
  refine wpAny_comprehension_free rfl hfold hclos hkind hnames (hit J s _ E hs F N fun a nw h' tk F' N' o ha S => ?_)
  refine comp1_core (RR := fun acc C => compPost (model prog w) A E use Q acc C) S ha F' N' (Sub.front hs) hcell hkind (fun C => (V C).mono (Sub.app Sub.rfl)) htk hbk hask (fun d hd ht C K hK VV => helt d hd ht C K ((Sub.app Sub.rfl).trans hK) VV) hz fun C D s' X hlt hC hD => ?_
  obtain ⟨nw2, h2, tk2, oC, m₂, ys, rfl, F2, hn, N2, hCD, o2, off, Dy, _⟩ := X
  refine kk C D (nw2 ++ nw) h2 tk2 ys oC m₂ F2 (by rw [List.append_assoc]; exact N2) hn hCD (o2.app o) (by rw [List.append_assoc]; exact off) (by rw [List.append_assoc]; exact Dy) hC hD

theorem comp2_is {target target2 : PySem.Expr} {ifs : List PySem.Expr} {items2 : Dat → List Dat} {f : Dat → Dat → Dat} {t : Dat → Bool} {bs : Dat → List (PySem.Str × Dat)} {bs2 : Dat → Dat → List (PySem.Str × Dat)} {fpos : Pos}
    (hh : A.handled = none) (hit : It prog w A env h₀ L m I iter items) (hclos : closureFor scope env = pure cl) (hcell : ∀ y ∈ scope.names, y.2 ≠ .cell) (hkind : scope.kind = .function)
    (hnames : ∀ x ∈ scope.names, x.2 = .local → scope.names.lookup x.1 = some .local) (hfold : ∀ x, foldedSetIterable iter env x = pure x)
    (V : ∀ C, Vars (compEnvC scope cl C env) L m I ρf) (htk : ∀ d ∈ items, Takes prog w A env h₀ L m scope cl target [] d (bs d)) (hbk : ∀ d ∈ items, ∀ C, ∀ q ∈ bs d, (compEnvC scope cl C env).kindOf q.1 = some .local)
    (hask : ∀ d ∈ items, Asks prog w A env h₀ L m scope cl ifs (bs d ++ ρf) (t d)) (hit2 : ∀ d ∈ items, t d = true → ∀ C K, Vars (compEnvC scope cl C env) L m K (bs d ++ ρf) → Ex prog w A (compEnvC scope cl C env) h₀ L m K iter2 (.list (items2 d)))
    (htk2 : ∀ d ∈ items, t d = true → ∀ d2 ∈ items2 d, Takes prog w A env h₀ L m scope cl target2 (bs d) d2 (bs2 d d2)) (hbk2 : ∀ d ∈ items, t d = true → ∀ d2 ∈ items2 d, ∀ C, ∀ q ∈ bs2 d d2, (compEnvC scope cl C env).kindOf q.1 = some .local)
    (helt : ∀ d ∈ items, t d = true → ∀ d2 ∈ items2 d, ∀ C K, Vars (compEnvC scope cl C env) L m K ((bs2 d d2 ++ bs d) ++ ρf) → Ex prog w A (compEnvC scope cl C env) h₀ L m K elt (f d d2))
    (hz : (items.flatMap fun d => if t d then (items2 d).map (f d) else []).length ≤ sizeLine) (hf2 : ∀ env x, foldedSetIterable iter2 env x = pure x) :
    IsComp prog w A env h₀ L m I (two elt target iter ifs target2 iter2 scope pos) scope fpos (eval iter env) (items.flatMap fun d => if t d then (items2 d).map (f d) else []) := by
  intro use J s Q E hs F N kk
  refine wpAny_comprehension_free rfl hfold hclos hkind hnames (hit J s _ E hs F N fun a nw h' tk F' N' o ha S => ?_)
  refine comp2_core (RR := fun acc C => compPost (model prog w) A E use Q acc C) hh S ha F' N' (Sub.front hs) hcell hkind (fun C => (V C).mono (Sub.app Sub.rfl)) htk hbk hask hit2 htk2 hbk2 helt hz hf2 fun C D s' X hlt hC hD => ?_
  obtain ⟨nw2, h2, tk2, oC, m₂, ys, rfl, F2, hn, N2, hCD, o2, off, Dy, _⟩ := X
  refine kk C D (nw2 ++ nw) h2 tk2 ys oC m₂ F2 (by rw [List.append_assoc]; exact N2) hn hCD (o2.app o) (by rw [List.append_assoc]; exact off) (by rw [List.append_assoc]; exact Dy) hC hD

theorem lst_mem {K : Led} {ys : List Value} {D : Addr} (hm : (D, LCg.lst ys) ∈ K) (h : DatAll K ys out) : DatIn K (.ref D) (.list out) := .list (vs := ys) (n := ys.length) hm h

theorem but_C {h' h'' : Heap} {nw J : Led} {oC oD : Obj} (N : News h₀ L h' ((C, oC) :: (D, oD) :: (nw ++ J))) (hs : Heap.SameBut C h' h'') (hCD : (@Ne Nat C D)) (off : ∀ p ∈ nw ++ J, (@Ne Nat p.1 C) ∧ (@Ne Nat p.1 D)) : News h₀ L h'' (((D, oD) :: nw) ++ J) := fun p hp => by
  have z := N p (List.mem_cons.mpr (.inr hp))
  refine ⟨hs.extBut _ _ ?_ z.1, z.2⟩
  rcases List.mem_cons.mp hp with rfl | hp
  · exact Ne.symm hCD
  · exact (off p hp).1
theorem off_D {nw J : Led} {oD : Obj} (o : Off nw J) (off : ∀ p ∈ nw ++ J, (@Ne Nat p.1 C) ∧ (@Ne Nat p.1 D)) : Off ((D, oD) :: nw) J := fun q hq p hp => by
  rcases List.mem_cons.mp hq with rfl | hq
  · exact (off p (List.mem_append.mpr (.inr hp))).2
  · exact o q hq p hp

theorem ex_comp {gens : List Comprehension} (ha : firstAsync gens = false) (h : IsComp prog w A env h₀ L m I (.ListComp elt gens scope pos) scope (firstIterPos gens pos) (firstIter gens env) out) : Ex prog w A env h₀ L m I (.ListComp elt gens scope pos) (.list out) := by
  intro J s Q E hs F N kk
  rw [eval_ListComp, ha]
  refine h none J s Q E hs F N fun C D nw h' tk ys oC m₂ F' N' hn hCD o off Dy hC hD => ?_
  refine ⟨m₂, hn.ns (N' _ List.mem_cons_self).1, fun h'' hs' => ?_⟩
  exact kk _ ((D, LCg.lst ys) :: nw) h'' tk (F'.change hs' (N' _ List.mem_cons_self).2.1 hC) (but_C N' hs' hCD off) (off_D o off) (lst_mem List.mem_cons_self (all_mono (Sub.cons Sub.rfl) Dy))

variable {body rest orelse : List Stmt} {Nx Nx' : Mp → Led → Prop} {b : Bool} {x : PySem.Str}
/-- y = [..]: the list is new -/
theorem blk_comp {gens : List Comprehension} {y : PySem.Str} {py ps : Pos} (ha : firstAsync gens = false) (h : IsComp prog w A env h₀ L m (n ++ I) (.ListComp elt gens scope pos) scope (firstIterPos gens pos) (firstIter gens env) out)
    (h2 : ∀ D ys nw, (∀ p ∈ nw ++ (n ++ I), (@Ne Nat p.1 D)) → Off nw (n ++ I) → DatAll (nw ++ (n ++ I)) ys out → Blk prog w A env h₀ L I r rest (upd m y (.ref D)) ((D, LCg.lst ys) :: (nw ++ n)) Nx)
    (hl : env.locals = L) (hy : env.kindOf y = some .local) (hk : env.scope.kind = .function) (hw : swapsWith (.ListComp elt gens scope pos) (some (.Name y py)) ps.line env = pure true) :
    Blk prog w A env h₀ L I r (.Assign [.Name y py] (.ListComp elt gens scope pos) ps :: rest) m n Nx := by
  intro J s Q E hs F N o kr kn
  refine wpAny_execs_cons ?_
  rw [exec_Assign_Name_used _ _ _ _ hw]
  refine wpAny_bind (wpAny_standAt (wpAny_bind ?_))
  show wpAny _ A (do let _ ← comprehension (.ListComp elt gens scope pos) scope env (firstIterPos gens pos) (newList []) (firstAsync gens) (firstIter gens env) (some (assign (.Name y py) env))) _ _ s
  rw [ha]
  refine wpAny_bind (wpAny_mono (h (some (assign (.Name y py) env)) (n ++ J) s (fun _ s' => wpAny (model prog w) A (execs rest env) Q E s') E (Sub.front hs) F N fun C D nw h' tk ys oC m₂ F' N' hn hCD oo off Dy hC hD => ?_) (fun _ s' hq => wpAny_pure (wpAny_pure hq)) fun _ _ e => e)
  show wpAny _ A (assign (.Name y py) env (.ref D)) _ _ _
  refine wpAny_assign_Name (wpAny_storeName_local hy (by rw [hl]; exact F'.ns) (fun h₂ hn₂ hs₂ => ?_) (by rw [hk]; rfl))
  rw [hl] at hn₂ hs₂
  have F₂ : Fr h₀ L h₂ (upd m y (.ref D)) := F'.set hn₂ hs₂
  have N₂ := N'.set hs₂
  refine ⟨m₂, hn.ns (N₂ _ List.mem_cons_self).1, fun h'' hs'' => ?_⟩
  refine h2 D ys nw (fun p hp => (off p (Sub.front (Sub.front hs) p hp)).2) (oo.sub (Sub.front hs)) Dy J _ Q E hs (F₂.change hs'' (N₂ _ List.mem_cons_self).2.1 hC) (by
    have z := but_C N₂ hs'' hCD off
    rw [List.cons_append, List.append_assoc]; exact z) ?_ kr kn
  intro q hq p hp
  rcases List.mem_cons.mp hq with rfl | hq
  · exact (off p (List.mem_append.mpr (.inr (List.mem_append.mpr (.inr hp))))).2
  · exact (oo.app o) q hq p hp
theorem blk_put_comp {gens : List Comprehension} {y : PySem.Str} {py ps : Pos} (V : Vars env L m (n ++ I) ρ) (h : IsComp prog w A env h₀ L m (n ++ I) (.ListComp elt gens scope pos) scope (firstIterPos gens pos) (firstIter gens env) out)
    (h2 : ∀ m' n', Vars env L m' (n' ++ I) ((y, .list out) :: ρ) → Blk prog w A env h₀ L I r rest m' n' Nx) (ha : firstAsync gens = false := by rfl)
    (hl : env.locals = L := by rfl) (hy : env.kindOf y = some .local := by rfl) (hk : env.scope.kind = .function := by rfl) (hn : ((ρ.map (·.1)).all fun z => z != y) = true := by with_unfolding_all rfl) (hw : swapsWith (.ListComp elt gens scope pos) (some (.Name y py)) ps.line env = pure true := by rfl) :
    Blk prog w A env h₀ L I r (.Assign [.Name y py] (.ListComp elt gens scope pos) ps :: rest) m n Nx :=
  blk_comp ha h (fun D ys nw off o Dy => h2 _ _ (by
    rw [List.cons_append, List.append_assoc]
    refine (V.put (nw := (D, LCg.lst ys) :: nw) hl hy ?_ (lst_mem List.mem_cons_self (all_mono (Sub.cons Sub.rfl) Dy)))
    rw [List.all_map] at hn; exact hn)) hl hy hk hw
end
end Mine
end
section
/-! part FwK -/
open PySem PySem.W PyProof.Rows PySem.Spec PySem.Calls PyProof.V
set_option maxRecDepth 100000
namespace Mine
section
variable {prog : Program} {w : World} {K : Frag} {p : Program} {loose : List PySem.Str} {mean : ExcName → Option Value} {mg mb : Mp} {A : Around} {env : Env} {h₀ : Heap} {L C D : Addr} {m m' : Mp} {I I₀ J n n' nw : Led} {ρ ρc ρf : List (PySem.Str × Dat)} {out items : List Dat} {s₀ s : Shared} {e elt iter iter2 : PySem.Expr} {d r : Dat} {scope : Scope} {cl : List (PySem.Str × Addr)} {pos : Pos} {k : Nat}
variable {body rest orelse : List Stmt} {Nx Nx' : Mp → Led → Prop} {b : Bool} {x y : PySem.Str} {v : Value}

-- cells
def Cells (env : Env) (n : Led) : Prop := ∀ y c, env.cells.lookup y = some c → ∃ o v, (c, o) ∈ n ∧ o.data = .cell v
def Apart (env : Env) : Prop := ∀ x y c, env.cells.lookup x = some c → env.cells.lookup y = some c → x = y
structure VC (env : Env) (L : Addr) (m : Mp) (n I : Led) (ρ : List (PySem.Str × Dat)) : Prop where
  v : Vars env L m (n ++ I) ρ
  c : Cells env n
  a : Apart env
theorem Cells.app (h : Cells env n) : Cells env (nw ++ n) := fun y c e => by
  obtain ⟨o, v, a, b⟩ := h y c e
  exact ⟨o, v, List.mem_append.mpr (.inr a), b⟩
theorem VC.sub {ρ' : List (PySem.Str × Dat)} (h : VC env L m n I ρ) (s : ∀ p ∈ ρ', p ∈ ρ) : VC env L m n I ρ' := ⟨h.v.sub s, h.c, h.a⟩

def putc (c : Addr) (o' : Obj) (n : Led) : Led := n.map fun p => if p.1 = c then (c, o') else p
theorem putc_mem {c : Addr} {o' : Obj} {q : Addr × Obj} (h : q ∈ n) (hq : q.1 ≠ c) : q ∈ putc c o' n := List.mem_map.mpr ⟨q, h, by rw [if_neg hq]⟩
theorem putc_new {c : Addr} {o o' : Obj} (h : (c, o) ∈ n) : (c, o') ∈ putc c o' n := List.mem_map.mpr ⟨(c, o), h, if_pos rfl⟩
theorem putc_of {c : Addr} {o' : Obj} {q : Addr × Obj} (h : q ∈ putc c o' n) : q = (c, o') ∨ (q ∈ n ∧ q.1 ≠ c) := by
  obtain ⟨q', a, b⟩ := List.mem_map.mp h
  by_cases hc : q'.1 = c
  · rw [if_pos hc] at b; exact .inl b.symm
  · rw [if_neg hc] at b; subst b; exact .inr ⟨a, hc⟩

/-- after y = v: the names or the ledger -/
def Sto (env : Env) (L : Addr) (m : Mp) (y : PySem.Str) (v : Value) (n n' : Led) (m' : Mp) : Prop :=
  (env.kindOf y = some .local ∧ env.locals = L ∧ n' = n ∧ m' = upd m y v) ∨ (env.kindOf y = some .cell ∧ m' = m ∧ ∃ c o o', env.cells.lookup y = some c ∧ (c, o) ∈ n ∧ (∃ v₀, o.data = .cell v₀) ∧ o'.data = .cell (some v) ∧ n' = putc c o' n)
def CanSto (env : Env) (L : Addr) (y : PySem.Str) : Prop := (env.kindOf y = some .local ∧ env.locals = L) ∨ (env.kindOf y = some .cell ∧ (env.cells.lookup y).isSome = true)

theorem store {Q : PUnit → Shared → Prop} {E : Value → Shared → Prop} (hk : env.scope.kind = .function) (hy : CanSto env L y) (hc : Cells env n) (F : Fr h₀ L s.heap m) (N : News h₀ L s.heap (n ++ J)) (o : Off n J)
    (kk : ∀ h' n' m' tk, Sto env L m y v n n' m' → Fr h₀ L h' m' → News h₀ L h' (n' ++ J) → Off n' J → Q ⟨⟩ { s with heap := h', toks := tk }) : wpAny (model prog w) A (storeName env y v) Q E s := by
  rcases hy with ⟨h1, h2⟩ | ⟨h1, h2⟩
  · refine wpAny_storeName_local h1 (by rw [h2]; exact F.ns) (fun h'' hn hs' => ?_) (by rw [hk]; rfl)
    rw [h2] at hn hs'
    exact kk h'' n (upd m y v) _ (.inl ⟨h1, h2, rfl, rfl⟩) (F.set hn hs') (N.set hs') o
  · obtain ⟨c, hc2⟩ := Option.isSome_iff_exists.mp h2
    obtain ⟨oc, v₀, hm, hd⟩ := hc y c hc2
    have Nc := N (c, oc) (List.mem_append.mpr (.inl hm))
    refine wpAny_storeName_cell hk h1 hc2 ⟨oc, Nc.1, hd⟩ fun h' ⟨o', ho', hd'⟩ hs' => ?_
    refine kk h' (putc c o' n) m _ (.inr ⟨h1, rfl, c, oc, o', hc2, hm, ⟨v₀, hd⟩, hd', rfl⟩) (F.change hs' Nc.2.1 Nc.2.2) (fun q hq => ?_) fun q hq p hp => ?_
    · rcases List.mem_append.mp hq with hq | hq
      · rcases putc_of hq with rfl | ⟨hq, hne⟩
        · exact ⟨ho', Nc.2⟩
        · have z := N q (List.mem_append.mpr (.inl hq)); exact ⟨hs'.extBut _ _ hne z.1, z.2⟩
      · have z := N q (List.mem_append.mpr (.inr hq)); exact ⟨hs'.extBut _ _ (o _ hm q hq) z.1, z.2⟩
    · rcases putc_of hq with rfl | ⟨hq, hne⟩
      · exact o _ hm p hp
      · exact o _ hq p hp

theorem cell_not_seq {o : Obj} {v : Option Value} (h : o.data = .cell v) : ¬ isSeqObj o := by rintro ⟨xs, k, e⟩; rw [h] at e; cases e
/-- what a list of data says is not changed by a cell's change -/
theorem sto_sub (hn : ∀ q ∈ n ++ I, q.1 = C → ¬ isSeqObj q.2) {o' : Obj} : ∀ p ∈ n ++ I, isSeqObj p.2 → p ∈ putc C o' n ++ I := fun p hp hs => by
  rcases List.mem_append.mp hp with h | h
  · exact List.mem_append.mpr (.inl (putc_mem h fun e => hn p hp e hs))
  · exact List.mem_append.mpr (.inr h)
theorem Sto.dat (h : Sto env L m y v n n' m') {hp : Heap} (N : News h₀ L hp (n ++ I)) {u : Value} (D : DatIn (n ++ I) u d) : DatIn (n' ++ I) u d := by
  rcases h with ⟨_, _, rfl, _⟩ | ⟨_, _, c, o, o', _, hm, ⟨v₀, hd⟩, _, rfl⟩
  · exact D
  · refine dat_strip (sto_sub fun q hq e => ?_) D
    have z := (N q hq).1
    rw [e] at z
    have z2 := (N (c, o) (List.mem_append.mpr (.inl hm))).1
    rw [z] at z2; cases z2
    exact cell_not_seq hd
theorem Sto.vars (h : Sto env L m y v n n' m') (V : VC env L m n I ρ) {hp : Heap} (N : News h₀ L hp (n ++ I)) (hy : ((ρ.map (·.1)).all fun z => z != y) = true) (D : DatIn (n ++ I) v d) : VC env L m' n' I ((y, d) :: ρ) := by
  have hyy : ∀ p ∈ ρ, p.1 ≠ y := fun p hp => by
    rw [List.all_map] at hy
    simpa using List.all_eq_true.mp hy p hp
  have Dv := h.dat N D
  have Dall := fun u d' (D' : DatIn (n ++ I) u d') => h.dat N D'
  rcases h with ⟨h1, h2, rfl, rfl⟩ | ⟨h1, rfl, c, o, o', h2, hm, ⟨v₀, hd⟩, hd', rfl⟩
  · refine ⟨Vars.cons (V.v.upd fun p hp => hyy p hp) (.loc h2 h1 (by simp [upd])) D, V.c, V.a⟩
  · have uniq : ∀ q ∈ n ++ I, q.1 = c → q.2 = o := fun q hq e => by
      have z := (N q hq).1
      rw [e] at z
      have z2 := (N (c, o) (List.mem_append.mpr (.inl hm))).1
      rw [z] at z2; cases z2; rfl
    have mv : ∀ q ∈ n ++ I, q.1 ≠ c → q ∈ putc c o' n ++ I := fun q hq hne => by
      rcases List.mem_append.mp hq with h | h
      · exact List.mem_append.mpr (.inl (putc_mem h hne))
      · exact List.mem_append.mpr (.inr h)
    refine ⟨Vars.cons (fun q hq => ?_) (.cell c o' h1 h2 (List.mem_append.mpr (.inl (putc_new hm))) hd') Dv, fun z cz hz => ?_, V.a⟩
    · obtain ⟨u, ha, Du⟩ := V.v q hq
      refine ⟨u, ?_, Dall _ _ Du⟩
      cases ha with
      | loc a1 a2 a3 => exact .loc a1 a2 a3
      | cell c2 o2 a1 a2 a3 a4 =>
        refine .cell c2 o2 a1 a2 (mv _ a3 fun e => ?_) a4
        have e' : c2 = c := e
        subst e'
        exact hyy q hq (V.a _ _ _ a2 h2)
      | comp oC m₂ a1 a2 a3 a4 =>
        refine .comp oC m₂ a1 (mv _ a2 fun e => ?_) a3 a4
        have z := uniq _ a2 e
        obtain ⟨es, ep, hdd, _⟩ := a3
        have z' : oC = o := z
        rw [z', hd] at hdd; cases hdd
    · by_cases e : cz = c
      · subst e; exact ⟨o', _, putc_new hm, hd'⟩
      · obtain ⟨oz, vz, a, bb⟩ := V.c z cz hz
        exact ⟨oz, vz, putc_mem a e, bb⟩

/-- y = e, y a name of the frame or a cell -/
theorem blk_putv {py ps : Pos} (V : VC env L m n I ρ) (h1 : Ex prog w A env h₀ L m (n ++ I) e d) (h2 : ∀ m' n', VC env L m' n' I ((y, d) :: ρ) → Blk prog w A env h₀ L I r rest m' n' Nx)
    (hy : CanSto env L y) (hk : env.scope.kind = .function := by rfl) (hn : ((ρ.map (·.1)).all fun z => z != y) = true := by with_unfolding_all rfl) (hw : swapsWith e (some (.Name y py)) ps.line env = pure false := by rfl) :
    Blk prog w A env h₀ L I r (.Assign [.Name y py] e ps :: rest) m n Nx := by
  intro J s Q E hs F N o kr kn
  refine wpAny_execs_cons (wpAny_Assign_Name (h1 (n ++ J) s _ E (Sub.front hs) F N fun v nw h' tk F' N' o' D => ?_) hw)
  refine store hk hy (n := nw ++ n) V.c.app F' (by rw [List.append_assoc]; exact N') (o'.app o) fun h'' n' m' tk2 st F2 N2 o2 => ?_
  refine h2 m' n' (st.vars (I := I) ⟨by rw [List.append_assoc]; exact V.v.mono (Sub.app Sub.rfl), V.c.app, V.a⟩ (hp := h') (fun q hq => N' q ?_) hn (by rw [List.append_assoc]; exact D)) J _ Q E hs F2 N2 o2 kr kn
  rw [List.append_assoc] at hq
  exact Sub.front (Sub.front hs) q hq
-- entered with cells
theorem cells_pw : ∀ (names : List (PySem.Str × NameKind)) (k : Nat) (acc : List (PySem.Str × Addr)), (∀ q ∈ acc, q.2 < k) → acc.Pairwise (fun x y => x.2 ≠ y.2) → (cellsFrom k names acc).Pairwise fun x y => x.2 ≠ y.2
  | [], _, _, _, h => h
  | (nm, kd) :: r, k, acc, hlt, h => by
    unfold cellsFrom
    split
    · refine cells_pw r (k + 1) _ (fun q hq => ?_) (List.pairwise_cons.mpr ⟨fun q hq => Nat.ne_of_gt (hlt q hq), h⟩)
      rcases List.mem_cons.mp hq with rfl | hq
      · exact Nat.lt_succ_self _
      · exact Nat.lt_succ_of_lt (hlt q hq)
    · exact cells_pw r k acc hlt h
theorem cells_ge : ∀ (names : List (PySem.Str × NameKind)) (lo k : Nat) (acc : List (PySem.Str × Addr)), lo ≤ k → (∀ q ∈ acc, lo ≤ q.2) → ∀ q ∈ cellsFrom k names acc, lo ≤ q.2
  | [], _, _, _, _, h => h
  | (nm, kd) :: r, lo, k, acc, hk, h => by
    unfold cellsFrom
    split
    · refine cells_ge r lo (k + 1) _ (by omega) (fun q hq => ?_)
      rcases List.mem_cons.mp hq with rfl | hq
      · exact hk
      · exact h q hq
    · exact cells_ge r lo k acc hk h
theorem apart_of {env : Env} (h : env.cells.Pairwise fun x y => x.2 ≠ y.2) : Apart env := fun x y c h1 h2 => name_of_addr h (mem_of_lookup h1) (mem_of_lookup h2)
theorem cellsAre_mem {cm : Mp} : ∀ {cs : List (PySem.Str × Addr)} {cells : Led}, CellsAre cm cs cells → ∀ {x c}, (x, c) ∈ cs → ∃ o, (c, o) ∈ cells ∧ o.data = .cell (cm x)
  | _, _, .nil, x, c, h => nomatch h
  | _, _, .cons a r, x, c, h => by
    rcases List.mem_cons.mp h with e | h
    · cases e; exact ⟨_, List.mem_cons_self, a⟩
    · obtain ⟨o, a, b⟩ := cellsAre_mem r h; exact ⟨o, List.mem_cons.mpr (.inr a), b⟩
theorem cellsAre_addr {cm : Mp} : ∀ {cs : List (PySem.Str × Addr)} {cells : Led}, CellsAre cm cs cells → ∀ q ∈ cells, ∃ z ∈ cs, z.2 = q.1
  | _, _, .nil, q, h => nomatch h
  | _, _, .cons a r, q, h => by
    rcases List.mem_cons.mp h with e | h
    · cases e; exact ⟨_, List.mem_cons_self, rfl⟩
    · obtain ⟨z, a, b⟩ := cellsAre_addr r q h; exact ⟨z, List.mem_cons.mpr (.inr a), b⟩
theorem bindL_out {kd : PySem.Str → Option NameKind} : ∀ {bs : List (PySem.Str × Value)} {m : Mp} {x : PySem.Str}, x ∉ bs.map (·.1) → bindL kd bs m x = m x
  | [], _, _, _ => rfl
  | (y, v) :: r, m, x, h => by
    unfold bindL
    rw [List.map_cons, List.mem_cons, not_or] at h
    rw [bindL_out h.2]
    split
    · exact if_neg h.1
    · rfl
theorem bindL_in {kd : PySem.Str → Option NameKind} : ∀ {bs : List (PySem.Str × Value)} {m : Mp} {x : PySem.Str} {v : Value}, (bs.map (·.1)).Nodup → (x, v) ∈ bs → kd x = some .local → bindL kd bs m x = some v
  | (y, u) :: r, m, x, v, hn, h, hk => by
    unfold bindL
    rw [List.map_cons, List.nodup_cons] at hn
    rcases List.mem_cons.mp h with e | h
    · cases e; rw [if_pos hk, bindL_out hn.1]; exact if_pos rfl
    · exact bindL_in hn.2 h hk
theorem bindC_out {kd : PySem.Str → Option NameKind} : ∀ {bs : List (PySem.Str × Value)} {m : Mp} {x : PySem.Str}, x ∉ bs.map (·.1) → bindC kd bs m x = m x
  | [], _, _, _ => rfl
  | (y, v) :: r, m, x, h => by
    unfold bindC
    rw [List.map_cons, List.mem_cons, not_or] at h
    rw [bindC_out h.2]
    split
    · rfl
    · exact if_neg h.1
theorem bindC_in {kd : PySem.Str → Option NameKind} : ∀ {bs : List (PySem.Str × Value)} {m : Mp} {x : PySem.Str} {v : Value}, (bs.map (·.1)).Nodup → (x, v) ∈ bs → kd x ≠ some .local → bindC kd bs m x = some v
  | (y, u) :: r, m, x, v, hn, h, hk => by
    unfold bindC
    rw [List.map_cons, List.nodup_cons] at hn
    rcases List.mem_cons.mp h with e | h
    · cases e; rw [if_neg hk, bindC_out hn.1]; exact if_pos rfl
    · exact bindC_in hn.2 h hk

theorem vc_of {qual : PySem.Str} {scope : Scope} {cdv : Value} {f : Addr} {names : List PySem.Str} {vs : List Value} {ds : List Dat} {cells : Led} (hl : names.length = vs.length) (D : DatAll I vs ds) (hnd : names.Nodup)
    (hkind : (names.all fun x => scope.names.lookup x == some .local || scope.names.lookup x == some .cell) = true)
    (Y : CellsAre (bindC (envOfC qual scope L f cdv).kindOf (names.zip vs) fun _ => none) (cellsFrom (L + 1) scope.names []) cells) :
    VC (envOfC qual scope L f cdv) L (bindL (envOfC qual scope L f cdv).kindOf (names.zip vs) fun _ => none) cells I (names.zip ds) := by
  have hz : ((names.zip vs).map (·.1)).Nodup := by rw [List.map_fst_zip (Nat.le_of_eq hl)]; exact hnd
  refine ⟨fun q hq => ?_, fun y c hc => ?_, apart_of (cells_pw _ _ _ (fun _ h => nomatch h) .nil)⟩
  · obtain ⟨v, a, b⟩ := vars_zip (qual := qual) (scope := scope) (cdv := cdv) (f := f) hl D q hq
    refine ⟨v, ?_, dat_mono (Sub.app Sub.rfl) b⟩
    rcases Bool.or_eq_true_iff.mp (List.all_eq_true.mp hkind _ (List.of_mem_zip a).1) with h | h
    · have h' : (envOfC qual scope L f cdv).kindOf q.1 = some .local := beq_iff_eq.mp h
      exact .loc rfl h' (bindL_in hz a h')
    · have h' : (envOfC qual scope L f cdv).kindOf q.1 = some .cell := beq_iff_eq.mp h
      obtain ⟨c, hc⟩ := Option.isSome_iff_exists.mp (cellsFrom_some scope.names (L + 1) [] (.inl (by simpa using h)))
      obtain ⟨o, h1, h2⟩ := cellsAre_mem Y (mem_of_lookup hc)
      exact .cell c o h' hc (List.mem_append.mpr (.inl h1)) (h2.trans (congrArg PySem.Data.cell (bindC_in (kd := (envOfC qual scope L f cdv).kindOf) hz a (by rw [h']; decide))))
  · obtain ⟨o, h1, h2⟩ := cellsAre_mem Y (mem_of_lookup hc)
    exact ⟨o, _, h1, h2⟩

theorem fn_enterC {name qual : PySem.Str} {params : Arguments} {scope : Scope} {dV kV doc pm cdv ct oc : Value} {an od : Option Addr} {osl : Array (Option Value)} {f : Addr} {ds : List Dat} (names : List PySem.Str)
    (ho : K.lookup f = some ⟨oc, od, .func (fnOf name qual params body scope dV kV doc pm an cdv ct), osl⟩) (hcd : codeIn K cdv qual = true)
    (hbind : ∀ vs : List Value, vs.length = ds.length → bindArgs (fnOf name qual params body scope dV kV doc pm an cdv ct) ⟨vs, []⟩ = pure (names.zip vs))
    (hkind : (names.all fun x => scope.names.lookup x == some .local || scope.names.lookup x == some .cell) = true) (hndc : ((cellsFrom 0 scope.names []).map (·.1)).Nodup)
    (hnl : names.length = ds.length) (hnd : names.Nodup)
    (hb : ∀ (A : Around) (h₀ : Heap) (L : Addr) (I n : Led) (m : Mp), Site K p loose mean mg mb A h₀ L k → VC (envOfC qual scope L f cdv) L m n I ρ → Blk prog w A (envOfC qual scope L f cdv) h₀ L I r body m n NoNx)
    (hρ : names.zip ds = ρ := by rfl)
    (hco : scope.isCoroutine = false := by rfl) (hgen : scope.isGenerator = false := by rfl) (hk : scope.kind = .function := by rfl) : Fn prog w K p loose mean mg mb f (k + 1) ds r := by
  intro A h₀ L m I J s vs Q E S hs F N D h
  obtain ⟨X, T, hh, hd, hu, env, outer, A₀, base, B, hA, hf, hke⟩ := S
  refine wpAny_call (code_defC (K := K) B F X N T hA hf hke ho hcd (by omega) (BindsTo.of_eq (hbind vs D.length)) ?_ hndc (fun g L' h₁ tk cells FG F' N' Y B' X' T' hlt => ?_) hco hgen hk)
  · rw [List.all_eq_true]
    rintro ⟨a, b⟩ hy
    exact List.all_eq_true.mp hkind _ (List.of_mem_zip hy).1
  · have S' : Site K p loose mean mg mb (A.deeper (envOfC qual scope L' f cdv)) g L' k := by
      refine ⟨X', T', hh, ?_, ?_, envOfC qual scope L' f cdv, env :: outer, A, base, B', ?_, rfl, hk⟩
      · show A.depth + 1 + k < _; omega
      · show A.units + 3 + 8 * k + 64 < _; omega
      · show A.frames.map _ = _; rw [hA]; rfl
    refine hb _ g L' I cells _ S' (hρ ▸ vc_of (by rw [hnl, D.length]) D hnd hkind Y) J _ _ _ hs F' N' (fun q hq p hp => ?_) (fun v nw h' tk m' F2 N2 o D2 => ?_) fun _ _ _ _ _ _ _ x => x.elim
    · obtain ⟨z, hz, e⟩ := cellsAre_addr Y q hq
      have := cells_ge scope.names (L' + 1) (L' + 1) [] (Nat.le_refl _) (fun _ h => nomatch h) z hz
      have h2 := hlt p hp
      rw [← e]
      exact Nat.ne_of_lt (Nat.lt_of_lt_of_le h2 (Nat.le_of_succ_le this))
    · exact leaveK_ F2 N2 fun F3 N3 => h v nw h' tk F3 N3 o D2

-- what a comprehension sees of the cells
def InComp (scope : Scope) (cl : List (PySem.Str × Addr)) (env : Env) : List (PySem.Str × Dat) → Prop
  | [] => True
  | (y, _) :: r => (env.kindOf y = some .cell ∧ (∀ C, (compEnvC scope cl C env).kindOf y = some .cell) ∧ cl.lookup y = env.cells.lookup y) ∧ InComp scope cl env r
theorem vars_comp (V : Vars env L m n ρ) (hρ : ∀ q ∈ ρf, q ∈ ρ) (h : InComp scope cl env ρf) (C : Addr) : Vars (compEnvC scope cl C env) L m n ρf := by
  have key : ∀ q ∈ ρf, env.kindOf q.1 = some .cell ∧ (∀ C, (compEnvC scope cl C env).kindOf q.1 = some .cell) ∧ cl.lookup q.1 = env.cells.lookup q.1 := by
    clear hρ V
    induction ρf with
    | nil => exact fun _ h => nomatch h
    | cons a r ih =>
      intro q hq
      rcases List.mem_cons.mp hq with rfl | hq
      · exact h.1
      · exact ih h.2 q hq
  intro q hq
  obtain ⟨v, a, b⟩ := V q (hρ q hq)
  obtain ⟨k1, k2, k3⟩ := key q hq
  refine ⟨v, ?_, b⟩
  cases a with
  | loc h1 h2 h3 => rw [k1] at h2; cases h2
  | cell c o h1 h2 h3 h4 => exact .cell c o (k2 C) (k3.trans h2) h3 h4
  | comp oC m₂ h1 h2 h3 h4 => rw [k1] at h1; cases h1
end
end Mine
end
section
/-! part FwL -/
open PySem PySem.W PyProof.Rows PySem.Spec PySem.Calls PyProof.V
set_option maxRecDepth 100000
namespace Mine
section
variable {prog : Program} {w : World} {K : Frag} {p : Program} {loose : List PySem.Str} {mean : ExcName → Option Value} {mg mb : Mp} {A : Around} {env : Env} {h₀ : Heap} {L C D : Addr} {m m' : Mp} {I I₀ J n n' nw : Led} {ρ ρc ρf : List (PySem.Str × Dat)} {out items ds : List Dat} {s₀ s : Shared} {e e1 e2 elt iter iter2 : PySem.Expr} {d r : Dat} {scope : Scope} {cl : List (PySem.Str × Addr)} {pos np ap : Pos} {k : Nat} {a b x : Int} {pl : Sem Bool}

structure Blt (K : Frag) (env : Env) (x : PySem.Str) : Prop where
  ns : nsIn K mainGlobals x = some none
  g : env.globals = mainGlobals
  b : env.builtins = builtinsNs
  k : env.scope.kind = .function
  kind : env.kindOf x = some .globalImplicit

theorem ex_len (S : Site K p loose mean mg mb A h₀ L k) (B : Blt K env "len") (h1 : Ex prog w A env h₀ L m I e (.list ds)) (hz : ds.length < 2 ^ 62) (he : starEach [e] env = (false, eval e env) :: starEach [] env := by rfl)
    (hc : eval (.Call (.Name "len" np) [e] [] pos) env = (do callWith pos (← eval (.Name "len" np) env) [] (backTo pos (starEach [e] env)) (backToKw pos (keywordEach [] env))) := by rfl) :
    Ex prog w A env h₀ L m I (.Call (.Name "len" np) [e] [] pos) (.int ds.length) := by
  intro J s Q E hs F N h
  refine Call_ (name_builtin S F B.ns boot_len (by decide) ?_ B.g B.b B.k B.kind (by decide)) hc
  refine callWith_method1 (spliced_more (Ex.lst h1 hs F N fun c vs n nw h' tk F' N' o hm D => spliced_none ?_) he) he
  have hlen : vs.toArray.size = ds.length := by rw [List.size_toArray, D.length]
  refine call_len_list (News.isList N' (mem_up hs hm)) (by rw [hlen]; omega) ?_
  have := h _ [] _ (tk + 1 + 1) F' (drop_mid N') Off.nil (.int (ds.length : Int) (tk + 1))
  rw [hlen]; exact this

theorem ints_of {J : Led} : ∀ {vs : List Value} {ns : List Int}, DatAll J vs (ns.map Dat.int) → IntsAre vs ns
  | _, [], h => by cases h; exact .nil
  | _, x :: r, h => by
    cases h with
    | cons a t => cases a; exact .cons _ _ (ints_of t)
theorem ex_max {ns : List Int} {M : Int} (S : Site K p loose mean mg mb A h₀ L k) (B : Blt K env "max") (h1 : Ex prog w A env h₀ L m I e (.list (ns.map Dat.int))) (hM : M ∈ ns) (hA : ∀ z ∈ ns, z ≤ M) (he : starEach [e] env = (false, eval e env) :: starEach [] env := by rfl)
    (hc : eval (.Call (.Name "max" np) [e] [] pos) env = (do callWith pos (← eval (.Name "max" np) env) [] (backTo pos (starEach [e] env)) (backToKw pos (keywordEach [] env))) := by rfl) :
    Ex prog w A env h₀ L m I (.Call (.Name "max" np) [e] [] pos) (.int M) := by
  intro J s Q E hs F N h
  refine Call_ (name_builtin S F B.ns boot_max (by decide) ?_ B.g B.b B.k B.kind (by decide)) hc
  refine callWith_method1 (spliced_more (Ex.lst h1 hs F N fun c vs n nw h' tk F' N' o hm D => spliced_none ?_) he) he
  refine max_list_N S.hd F' N' (News.isList N' (mem_up hs hm)) (ints_of D) (List.length_pos_of_mem hM) fun h2 M2 t tk2 F2 N2 hm2 ha2 => ?_
  have : M2 = M := Int.le_antisymm (hA _ hm2) (ha2 _ hM)
  subst this
  exact h _ [] _ _ F2 (drop_mid N2) Off.nil (.int _ _)
theorem ex_min2 (S : Site K p loose mean mg mb A h₀ L k) (B : Blt K env "min") (h1 : Ex prog w A env h₀ L m I e1 (.int a)) (h2 : Ex prog w A env h₀ L m I e2 (.int b)) (he : starEach [e1, e2] env = (false, eval e1 env) :: starEach [e2] env := by rfl) (he2 : starEach [e2] env = (false, eval e2 env) :: starEach [] env := by rfl) (hpl : (backTo pos (starEach [e2] env)).any (·.1) = false := by rfl)
    (hc : eval (.Call (.Name "min" np) [e1, e2] [] pos) env = (do callWith pos (← eval (.Name "min" np) env) [] (backTo pos (starEach [e1, e2] env)) (backToKw pos (keywordEach [] env))) := by rfl) :
    Ex prog w A env h₀ L m I (.Call (.Name "min" np) [e1, e2] [] pos) (.int (if b < a then b else a)) := by
  intro J s Q E hs F N h
  refine Call_ (name_builtin S F B.ns boot_min (by decide) ?_ B.g B.b B.k B.kind (by decide)) hc
  refine callWith_method1 (spliced_more (Ex.int h1 hs F N fun t h' tk F' N' => spliced_more (Ex.int h2 hs F' N' fun u h'' tk' F'' N'' => spliced_none ?_) he2) he) he hpl
  exact min_two_N S.hd F'' N'' fun h3 tk3 F3 N3 => h _ [] _ _ F3 N3 Off.nil (.int _ _)
theorem ex_str_bool {t : Bool} (S : Site K p loose mean mg mb A h₀ L k) (B : Blt K env "str") (h1 : Ex prog w A env h₀ L m I e (.bool t)) (he : starEach [e] env = (false, eval e env) :: starEach [] env := by rfl)
    (hc : eval (.Call (.Name "str" np) [e] [] pos) env = (do callWith pos (← eval (.Name "str" np) env) [] (backTo pos (starEach [e] env)) (backToKw pos (keywordEach [] env))) := by rfl) :
    Ex prog w A env h₀ L m I (.Call (.Name "str" np) [e] [] pos) (.str (if t then "True" else "False")) := by
  intro J s Q E hs F N h
  refine Call_ (name_builtin S F B.ns PySem.Pv.boot_str (by decide) ?_ B.g B.b B.k B.kind (by decide)) hc
  refine PySem.Pv.callWith_type1 (spliced_more (Ex.bool h1 hs F N fun h' tk F' N' => spliced_none ?_) he) he
  exact P.str_of_bool (h _ [] _ _ F' N' Off.nil (.str _ _))

theorem all_rep {J : Led} {vs : List Value} (h : DatAll J vs ds) : ∀ k : Nat, DatAll J (List.replicate k vs).flatten (List.replicate k ds).flatten
  | 0 => .nil
  | k + 1 => by
    rw [List.replicate_succ, List.replicate_succ, List.flatten_cons, List.flatten_cons]
    exact h.append (all_rep h k)
theorem ex_mul_lst (h1 : Ex prog w A env h₀ L m I e1 (.list ds)) (h2 : Ex prog w A env h₀ L m I e2 (.int x)) (h0 : 0 ≤ x) (hx : x < 2 ^ 60) (hz : ds.length * x.toNat ≤ 256) :
    Ex prog w A env h₀ L m I (.BinOp e1 .Mult e2 pos) (.list (List.replicate x.toNat ds).flatten) := by
  intro J s Q E hs F N h
  refine wpAny_BinOp (Ex.lst h1 hs F N fun c vs n nw h' tk F' N' o hm D => Ex.int h2 hs.app F' N' fun u h'' tk' F'' N'' => ?_)
  refine KMa.mul F'' N'' (News.isList N'' (mem_up hs hm)) (by omega) (by omega) (by rw [D.length]; exact hz) rfl fun D2 h3 F3 N3 hlt => ?_
  refine h _ ((D2, PySem.W.listOf (List.replicate x.toNat vs).flatten.toArray 0) :: nw) h3 tk' F3 N3 (fun q hq p hp => ?_) (.list List.mem_cons_self (all_mono (Sub.cons Sub.rfl) (all_rep D _)))
  rcases List.mem_cons.mp hq with rfl | hq
  · exact Nat.ne_of_lt (hlt p (List.mem_append.mpr (.inr hp)))
  · exact o q hq p hp

theorem bools_at {J : Led} {vs : List Value} {bs : List Bool} (h : DatAll J vs (bs.map Dat.bool)) {i : Nat} (hi : i < bs.length) : vs[i]? = some (.bool (bs[i])) := by
  obtain ⟨v, a, D⟩ := h.get (k := i) (by simpa using hi)
  rw [a]
  have hd : (bs.map Dat.bool)[i]'(by simpa using hi) = .bool bs[i] := by simp
  rw [hd] at D
  cases D; rfl
theorem bools_mem {J : Led} {bs : List Bool} {vs : List Value} (h : DatAll J vs (bs.map Dat.bool)) {y : Value} (hy : y ∈ vs) : ∃ b, y = .bool b := by
  induction bs generalizing vs with
  | nil => cases h; exact nomatch hy
  | cons b r ih =>
    cases h with
    | cons a t =>
      rcases List.mem_cons.mp hy with rfl | hy
      · cases a; exact ⟨_, rfl⟩
      · exact ih t hy
theorem ex_index_true {bs : List Bool} {j : Nat} (S : Site K p loose mean mg mb A h₀ L k) (h1 : Ex prog w A env h₀ L m I e (.list (bs.map Dat.bool))) (h2 : Ex prog w A env h₀ L m I e2 (.bool true)) (hj : j < bs.length) (hit : bs[j] = true) (hno : ∀ i (hi : i < bs.length), i < j → bs[i] = false) (hz : bs.length ≤ sizeLine)
    (he : MethEq e "index" ap [e2] pos env pl := by rfl) (he2 : starEach [e2] env = (false, eval e2 env) :: starEach [] env := by rfl) :
    Ex prog w A env h₀ L m I (.Call (.Attribute e "index" ap) [e2] [] pos) (.int j) := by
  intro J s Q E hs F N h
  refine MethodCall' he (Ex.lst h1 hs F N fun c vs n nw h' tk F' N' o hm D => ?_)
  refine kf_method N' (mem_up hs hm) PySem.F.slot_list_index PySem.F.type_list_index ?_
  refine callWith_method1 (spliced_more (Ex.bool h2 hs.app F' N' fun h'' tk' F'' N'' => spliced_none ?_) he2) he2
  have hl := D.length
  rw [List.length_map] at hl
  rw [sizeLine_eq] at hz
  have ho := (N'' _ (mem_up hs hm)).1
  have at' : ∀ i (hi : i < vs.toArray.size), ∃ hb : i < bs.length, vs.toArray[i] = .bool bs[i] := fun i hi => by
    have hb : i < bs.length := by rw [List.size_toArray] at hi; omega
    have z := bools_at D hb
    refine ⟨hb, ?_⟩
    have z2 : vs[i]'(by omega) = .bool bs[i] := by
      rw [List.getElem?_eq_getElem (by omega)] at z; exact Option.some.inj z
    simpa using z2
  let ev : Value → Bool := fun v => match v with | .bool b => b == true | _ => false
  have hjz : j < vs.toArray.size := by rw [List.size_toArray]; omega
  refine call_meets PySem.F.slot_list_index ⟨_, ho, rfl⟩ PySem.F.entry_list_index (PySem.F.args_list_index_2 _ _)
    (PySem.SeqAt.list_indexAt c vs.toArray n none #[] (.bool true) ev j hjz (by omega) ?_ ?_) ⟨ho, fun y hy => ?_, ?_⟩
  · obtain ⟨_, e⟩ := at' j hjz
    rw [e, hit]; rfl
  · intro i hi hlt
    obtain ⟨hb, e⟩ := at' i hi
    rw [e, hno i hb hlt]; rfl
  · obtain ⟨b, rfl⟩ := bools_mem D (by simpa using hy)
    exact PySem.SeqAt.EqAt.bool_bool b true
  · exact h _ [] _ _ F'' (drop_mid N'') Off.nil (.int _ _)
end
end Mine
end
section
/-! part FwM -/
open PySem PySem.W PyProof.Rows PySem.Spec PySem.Calls PyProof.V
set_option maxRecDepth 100000
namespace Mine
section
variable {prog : Program} {w : World} {K : Frag} {p : Program} {loose : List PySem.Str} {mean : ExcName → Option Value} {mg mb : Mp} {A : Around} {env : Env} {h₀ : Heap} {L C D : Addr} {m m' : Mp} {I I₀ J P n n' nw : Led} {ρ ρc ρf : List (PySem.Str × Dat)} {out items ds : List Dat} {s₀ s : Shared} {e e1 e2 elt iter iter2 : PySem.Expr} {d r : Dat} {scope : Scope} {cl : List (PySem.Str × Addr)} {pos np ap : Pos} {k : Nat} {a b x : Int} {pl : Sem Bool}
variable {body rest orelse : List Stmt} {Nx Nx' : Mp → Led → Prop}

def sc : Dat → Bool
  | .list _ => false
  | .tuple _ => false
  | _ => true
theorem dat_sc {K K' : Led} {v : Value} (h : sc d = true) (D : DatIn K v d) : DatIn K' v d := by
  cases D with
  | none => exact .none
  | bool b => exact .bool b
  | int i t => exact .int i t
  | str x t => exact .str x t
  | bytes b t => exact .bytes b t
  | tuple hm r => cases h
  | list hm r => cases h

/-- walked item by item; what it walks over lies in P or is new -/
def It2 (prog : Program) (w : World) (A : Around) (env : Env) (h₀ : Heap) (L : Addr) (m : Mp) (I P : Led) (e : PySem.Expr) (items : List Dat) : Prop :=
  ∀ (J : Led) (s : Shared) (Q E : Value → Shared → Prop), Sub I J → Fr h₀ L s.heap m → News h₀ L s.heap J →
    (∀ a nw h' tk, Fr h₀ L h' m → News h₀ L h' (nw ++ J) → Off nw J → (∀ p ∈ nw ++ J, (@Ne Nat p.1 a)) → (@Ne Nat L a) → h₀.get? a = none →
      (∃ (fp : List Addr) (P' : Nat → Value → Prop) (St : Nat → Heap → Prop), Walks prog w A a fp [a] items.length P' St ∧ St 0 h' ∧ (∀ b ∈ fp, b = a ∨ ∃ o, (b, o) ∈ nw ++ P) ∧
        (∀ i v, i < items.length → P' i v → ∃ d, items[i]? = some d ∧ ∀ K, DatIn K v d) ∧ (∀ i h, St i h → ∃ o, h.get? a = some o)) → Q (.ref a) { s with heap := h', toks := tk }) →
    wpAny (model prog w) A (eval e env) (fun x s₁ => wpAny (model prog w) A (pyIter x) Q E s₁) E s

theorem it2_list (hh : A.handled = none) (h : Ex prog w A env h₀ L m P e (.list items)) (hI : Sub P I) (hsc : (items.all sc) = true) : It2 prog w A env h₀ L m I P e items := by
  intro J s Q E hs F N kk
  refine Ex.lst h (hI.trans hs) F N fun a vs n nw h' tk F' N' o hm Dv => ?_
  have hl := News.isList N' (mem_up (hI.trans hs) hm)
  have hlt : a < h'.objs.size := by obtain ⟨_, e, _⟩ := hl; exact Heap.lt_size e
  refine wpAny_pyIter_list hl ?_
  have up : ∀ b o, h'.get? b = some o → (h'.push { cls := .type "list_iterator", data := .fields #[.ref a, .int 0 0] }).get? b = some o := fun b o e => Heap.get?_push_of_some _ e
  have hlen : vs.toArray.size = items.length := by rw [List.size_toArray, Dv.length]
  refine kk h'.objs.size nw _ _ (F'.keeps up) (N'.grown up) o (fun p hp => Nat.ne_of_lt (Heap.lt_size (N' p hp).1)) (Nat.ne_of_lt F'.ns.lt) (next_is_new F') ⟨[h'.objs.size, a], fun i v => vs.toArray[i]? = some v, _, hlen ▸ Walks.list hh h'.objs.size a (Nat.ne_of_lt hlt) vs.toArray, ⟨⟨_, Heap.get?_push_size _ rfl, rfl, rfl⟩, hl.push _⟩, fun b hb => ?_, fun i v hi hv => ?_, fun i h st => ?_⟩
  · rcases List.mem_cons.mp hb with rfl | hb
    · exact .inl rfl
    · rcases List.mem_cons.mp hb with rfl | hb
      · exact .inr ⟨_, hm⟩
      · exact nomatch hb
  · obtain ⟨u, hu, Du⟩ := Dv.get hi
    refine ⟨_, List.getElem?_eq_getElem hi, fun K => ?_⟩
    have : vs[i]? = some v := by simpa using hv
    rw [hu] at this; cases this
    exact dat_sc (List.all_eq_true.mp hsc _ (List.getElem_mem hi)) Du
  · obtain ⟨o, e, _⟩ := st.1; exact ⟨o, e⟩

theorem it2_range {n : Int} {np : Pos} (S : Site K p loose mean mg mb A h₀ L k) (hns : nsIn K mainGlobals "range" = some none) (hg : env.globals = mainGlobals) (hb : env.builtins = builtinsNs) (hk : env.scope.kind = .function) (hx : env.kindOf "range" = some .globalImplicit)
    (h : Ex prog w A env h₀ L m I e (.int n)) (h0 : 0 ≤ n) (hn : n ≤ 2 ^ 24) (he : starEach [e] env = (false, eval e env) :: starEach [] env := by rfl)
    (hc : eval (.Call (.Name "range" np) [e] [] pos) env = (do callWith pos (← eval (.Name "range" np) env) [] (backTo pos (starEach [e] env)) (backToKw pos (keywordEach [] env))) := by rfl) :
    It2 prog w A env h₀ L m I P (.Call (.Name "range" np) [e] [] pos) ((List.range n.toNat).map fun i : Nat => Dat.int (i : Int)) := by
  intro J s Q E hs F N kk
  refine Call_ (name_builtin S F hns boot_range (by decide) ?_ hg hb hk hx (by decide)) hc
  refine PySem.Pv.callWith_type1 (spliced_more (Ex.int h hs F N fun t h' tk F' N' => spliced_none ?_) he) he
  refine range1_rows F' N' fun h2 tk2 t₁ u₁ v₁ hr F2 N2 up => ?_
  have hsz : Builtin.Range.rangeSize 0 n 1 = ((n.toNat : Nat) : Int) := by rw [rangeSize_nat]; simp
  refine wpAny_pyIter_range hr (small_one (by decide) (by decide) (by omega) (by omega)) ?_
  have up2 : ∀ b o, h2.get? b = some o → (h2.push { cls := .type "range_iterator", data := .fields #[rawInt 0, rawInt (Builtin.Range.rangeSize 0 n 1), rawInt 1] }).get? b = some o := fun b o e => Heap.get?_push_of_some _ e
  have hlen : n.toNat = ((List.range n.toNat).map fun i : Nat => Dat.int (i : Int)).length := by simp
  refine kk h2.objs.size [] _ _ (F2.keeps up2) (N2.grown up2) Off.nil (fun p hp => Nat.ne_of_lt (Heap.lt_size (N2 p hp).1)) (Nat.ne_of_lt F2.ns.lt) (next_is_new F2) ⟨[h2.objs.size], fun i v => ∃ t, v = .int (0 + (i : Int)) t, _, hlen ▸ LCg.range_walks (I := h2.objs.size) S.hd 0 n.toNat, ?_, fun b hb => .inl (List.mem_singleton.mp hb), fun i v hi hv => ?_, fun i h st => ⟨_, st⟩⟩
  · show IsRangeIter _ _ _ _ _
    rw [hsz]; simpa using Heap.get?_push_size _ rfl
  · obtain ⟨t, rfl⟩ := hv
    have hi' : i < n.toNat := by simpa using hi
    exact ⟨.int (i : Int), by simp [hi'], fun K => by rw [Int.zero_add]; exact .int _ _⟩

/-- for y in iter: body -/
theorem blk_for {y : PySem.Str} {py ps : Pos} (hit : It2 prog w A env h₀ L m (n ++ I) I iter items) (Inv : Nat → Mp → Led → Led → Prop)
    (h0 : ∀ nw, Off nw (n ++ I) → Inv 0 m n (nw ++ I)) (hcells : ∀ j m n I', Inv j m n I' → Cells env n) (hst : CanSto env L y) (hk : env.scope.kind = .function)
    (step : ∀ I' j d, items[j]? = some d → Sub I I' → ∀ m₁ n₁ n₂ m₂ v hp, Inv j m₁ n₁ I' → Sto env L m₁ y v n₁ n₂ m₂ → News h₀ L hp (n₁ ++ I') → (∀ K, DatIn K v d) → Blk prog w A env h₀ L I' r body m₂ n₂ (fun m n => Inv (j + 1) m n I'))
    (hr : ∀ nw m' n', Inv items.length m' n' (nw ++ I) → Blk prog w A env h₀ L I r rest m' (n' ++ nw) Nx) (hfold : ∀ x, foldedSetIterable iter env x = pure x := by intro _; rfl) :
    Blk prog w A env h₀ L I r (.For (.Name y py) iter body [] ps :: rest) m n Nx := by
  intro J s Q E hs F N o kr kn
  refine wpAny_execs_cons (wpAny_For (hit (n ++ J) s _ E (Sub.front hs) F N fun a nw h' tk F' N' oo ha hLa hna hS => ?_) hfold)
  obtain ⟨fp, P', St, W, hst0, hfp, hP, hob⟩ := hS
  have ha' : ∀ q ∈ nw ++ J, (@Ne Nat q.1 a) := fun q hq => by
    rcases List.mem_append.mp hq with h | h
    · exact ha q (List.mem_append.mpr (.inl h))
    · exact ha q (List.mem_append.mpr (.inr (List.mem_append.mpr (.inr h))))
  have onw : Off n (nw ++ J) := fun q hq z hz => by
    rcases List.mem_append.mp hz with h | h
    · exact fun e => oo z h q (List.mem_append.mpr (.inl hq)) e.symm
    · exact o q hq z h
  refine codeAny_forLoop (fun j s' => ∃ i m₁ n₁ h tk, i ≤ items.length ∧ j = items.length - i ∧ s' = { s with heap := h, toks := tk } ∧ Fr h₀ L h m₁ ∧ News h₀ L h (n₁ ++ (nw ++ J)) ∧ Off n₁ (nw ++ J) ∧ (∀ q ∈ n₁, (@Ne Nat q.1 a)) ∧ St i h ∧ Inv i m₁ n₁ (nw ++ I)) (fun j s' hI => ?_) items.length
    ⟨0, m, n, h', tk, Nat.zero_le _, rfl, rfl, F', (fun q hq => N' q (by
      rcases List.mem_append.mp hq with h | h
      · exact List.mem_append.mpr (.inr (List.mem_append.mpr (.inl h)))
      · rcases List.mem_append.mp h with h | h
        · exact List.mem_append.mpr (.inl h)
        · exact List.mem_append.mpr (.inr (List.mem_append.mpr (.inr h))))), onw, (fun q hq => ha q (List.mem_append.mpr (.inr (List.mem_append.mpr (.inl hq))))), hst0, h0 nw (oo.sub (Sub.front hs))⟩
  obtain ⟨i, m₁, n₁, h, tk1, hi, rfl, rfl, F1, N1, o1, ha1, hst1, hinv⟩ := hI
  have ha2 : ∀ q ∈ n₁ ++ (nw ++ J), (@Ne Nat q.1 a) := fun q hq => (List.mem_append.mp hq).elim (ha1 q) (ha' q)
  by_cases hlt : i < items.length
  · refine W.item i _ _ _ hlt hst1 fun v h2 tk2 hPv hst2 hk2 => ?_
    obtain ⟨d, hd, Dv⟩ := hP i v hlt hPv
    have F2 := LCg.fr_but F1 hk2 hLa hna
    have N2 := LCg.news_but N1 hk2 ha2
    obtain ⟨oI, hoI⟩ := hob _ _ hst2
    have N2' : News h₀ L h2 (n₁ ++ ((a, oI) :: (nw ++ J))) := fun q hq => by
      rcases List.mem_append.mp hq with h | h
      · exact N2 q (List.mem_append.mpr (.inl h))
      · rcases List.mem_cons.mp h with rfl | h
        · exact ⟨hoI, fun e => hLa e.symm, hna⟩
        · exact N2 q (List.mem_append.mpr (.inr h))
    have o2 : Off n₁ ((a, oI) :: (nw ++ J)) := fun q hq z hz => by
      rcases List.mem_cons.mp hz with rfl | hz
      · exact fun e => ha1 q hq e.symm
      · exact o1 q hq z hz
    refine wpAny_assign_Name (store hk hst (hcells _ _ _ _ hinv) F2 N2' o2 fun h3 n₂ m₂ tk3 st F3 N3 o3 => ?_)
    refine step (nw ++ I) i d hd (Sub.app Sub.rfl) m₁ n₁ n₂ m₂ v h2 hinv st (fun q hq => N2 q (Sub.front (Sub.front hs) q hq)) Dv ((a, oI) :: (nw ++ J)) _ _ _ (Sub.cons (Sub.front hs)) F3 N3 o3 (fun v nwr h4 tk4 m4 F4 N4 o4 D4 => ?_) fun m4 n4 h4 tk4 F4 N4 o4 hinv4 => ?_
    · refine kr v (nwr ++ nw) h4 tk4 m4 F4 (fun q hq => N4 q ?_) ?_ (by rw [List.append_assoc]; exact D4)
      · rw [List.append_assoc] at hq
        rcases List.mem_append.mp hq with h | h
        · exact List.mem_append.mpr (.inl h)
        · exact List.mem_append.mpr (.inr (List.mem_cons.mpr (.inr h)))
      · exact Off.app (fun q hq z hz => o4 q hq z (List.mem_cons.mpr (.inr hz))) (oo.sub (Sub.app Sub.rfl))
    · refine ⟨items.length - (i + 1), by omega, i + 1, m4, n4, h4, tk4, hlt, rfl, rfl, F4, fun q hq => N4 q ?_, fun q hq z hz => o4 q hq z (List.mem_cons.mpr (.inr hz)), fun q hq e => o4 q hq (a, oI) List.mem_cons_self e.symm, ?_, hinv4⟩
      · rcases List.mem_append.mp hq with h | h
        · exact List.mem_append.mpr (.inl h)
        · exact List.mem_append.mpr (.inr (List.mem_cons.mpr (.inr h)))
      · refine W.frame _ _ _ hst2 fun b hb ob hob' => ?_
        rcases hfp b hb with rfl | ⟨o', ho'⟩
        · rw [hoI] at hob'; cases hob'
          exact (N4 (b, oI) (List.mem_append.mpr (.inr List.mem_cons_self))).1
        · have hm' : (b, o') ∈ nw ++ J := Sub.front hs _ ho'
          have z := (N2 (b, o') (List.mem_append.mpr (.inr hm'))).1
          rw [z] at hob'; cases hob'
          exact (N4 (b, o') (List.mem_append.mpr (.inr (List.mem_cons.mpr (.inr hm'))))).1
  · have hin : i = items.length := by omega
    subst hin
    refine W.done _ _ _ hst1 fun h2 tk2 hk2 => wpAny_execs_nil ?_
    have F2 := LCg.fr_but F1 hk2 hLa hna
    have N2 := LCg.news_but N1 hk2 ha2
    refine hr nw m₁ n₁ hinv J _ Q E hs F2 (by rw [List.append_assoc]; exact N2) ?_ kr kn
    exact Off.app (n2 := n₁) o1 (oo.sub (Sub.app Sub.rfl))
end
end Mine
end
section
/-! part FwN -/
open PySem PySem.W PyProof.Rows PySem.Spec PySem.Calls PyProof.V
set_option maxRecDepth 100000
namespace Mine
section
variable {prog : Program} {w : World} {K : Frag} {p : Program} {loose : List PySem.Str} {mean : ExcName → Option Value} {mg mb : Mp} {A : Around} {env : Env} {h₀ : Heap} {L C D : Addr} {m m' : Mp} {I I₀ J P n n' nw : Led} {ρ ρ' ρc ρf : List (PySem.Str × Dat)} {out items ds ds2 : List Dat} {s₀ s : Shared} {e e1 e2 elt iter iter2 : PySem.Expr} {d r : Dat} {scope : Scope} {cl : List (PySem.Str × Addr)} {pos np ap : Pos} {k : Nat} {a b : Int} {pl : Sem Bool} {x y : PySem.Str} {v : Value}
variable {body rest orelse : List Stmt} {Nx Nx' : Mp → Led → Prop}

theorem name_at {Q E : Value → Shared → Prop} (V : VarAt env L m I x v) (hs : Sub I J) (F : Fr h₀ L s.heap m) (N : News h₀ L s.heap J) (k : Q v s) (hk : env.scope.kind = .function) (hd : (x == ("__debug__" : PySem.Str)) = false) : wpAny (model prog w) A (eval (.Name x pos) env) Q E s := by
  cases V with
  | loc a b c => subst a; exact wpAny_Name (wpAny_loadName_local hk b F.ns c k) hd
  | cell c o a b e f => exact wpAny_Name (wpAny_loadName_cell hk a b ⟨o, N.get (hs _ e), f⟩ k) hd
  | comp oC m₂ a b c e => exact wpAny_Name (wpAny_loadName_local hk a (c.ns (N.get (hs _ b))) e k) hd

/-- x is a list of the frame's own: nothing else that is known holds it -/
def OwnL (env : Env) (L : Addr) (m : Mp) (n I : Led) (x : PySem.Str) (ds : List Dat) (ρ : List (PySem.Str × Dat)) : Prop :=
  ∃ (a : Addr) (ys : List Value) (k : Nat) (n₀ : Led), (a, PySem.W.listOf ys.toArray k) ∈ n ∧ Sub n₀ n ∧ (∀ p ∈ n₀ ++ I, (@Ne Nat p.1 a)) ∧ VarAt env L m (n₀ ++ I) x (.ref a) ∧ DatAll (n₀ ++ I) ys ds ∧ VC env L m n₀ I ρ
theorem sub_right {I : Led} (h : Sub n n') : Sub (n ++ I) (n' ++ I) := fun p hp => (List.mem_append.mp hp).elim (fun q => List.mem_append.mpr (.inl (h p q))) fun q => List.mem_append.mpr (.inr q)
theorem Cells.up (h : Cells env n) (s : Sub n n') : Cells env n' := fun y c e => by
  obtain ⟨o, v, a, b⟩ := h y c e
  exact ⟨o, v, s _ a, b⟩
theorem OwnL.vc (O : OwnL env L m n I x ds ρ) : VC env L m n I ((x, .list ds) :: ρ) := by
  obtain ⟨a, ys, k, n₀, h1, h2, h3, h4, h5, h6⟩ := O
  exact ⟨Vars.cons (h6.v.mono (sub_right h2)) (h4.mono (sub_right h2)) (.list (List.mem_append.mpr (.inl h1)) (all_mono (sub_right h2) h5)), h6.c.up h2, h6.a⟩
theorem OwnL.up (O : OwnL env L m n I x ds ρ) (h : Sub n n') : OwnL env L m n' I x ds ρ := by
  obtain ⟨a, ys, k, n₀, h1, h2, h3, h4, h5, h6⟩ := O
  exact ⟨a, ys, k, n₀, h _ h1, h2.trans h, h3, h4, h5, h6⟩
theorem OwnL.sub (O : OwnL env L m n I x ds ρ) (h : ∀ p ∈ ρ', p ∈ ρ) : OwnL env L m n I x ds ρ' := by
  obtain ⟨a, ys, k, n₀, h1, h2, h3, h4, h5, h6⟩ := O
  exact ⟨a, ys, k, n₀, h1, h2, h3, h4, h5, h6.sub h⟩
theorem VC.assoc (h : VC env L m n (nw ++ I) ρ) : VC env L m (n ++ nw) I ρ := ⟨by rw [List.append_assoc]; exact h.v, h.c.up fun p hp => List.mem_append.mpr (.inl hp), h.a⟩
theorem OwnL.assoc (O : OwnL env L m n (nw ++ I) x ds ρ) : OwnL env L m (n ++ nw) I x ds ρ := by
  obtain ⟨a, ys, k, n₀, h1, h2, h3, h4, h5, h6⟩ := O
  exact ⟨a, ys, k, n₀ ++ nw, List.mem_append.mpr (.inl h1), fun p hp => (List.mem_append.mp hp).elim (fun q => List.mem_append.mpr (.inl (h2 p q))) fun q => List.mem_append.mpr (.inr q), by rw [List.append_assoc]; exact h3, by rw [List.append_assoc]; exact h4, by rw [List.append_assoc]; exact h5, h6.assoc⟩
theorem VC.widen {I' : Led} (h : VC env L m n I ρ) (s : Sub I I') : VC env L m n I' ρ := ⟨h.v.mono (Sub.front s), h.c, h.a⟩
theorem OwnL.widen {I' : Led} (O : OwnL env L m n I x ds ρ) (s : Sub I I') (ho : Off n I' ) : OwnL env L m n I' x ds ρ := by
  obtain ⟨a, ys, k, n₀, h1, h2, h3, h4, h5, h6⟩ := O
  refine ⟨a, ys, k, n₀, h1, h2, fun p hp => ?_, h4.mono (Sub.front s), all_mono (Sub.front s) h5, h6.widen s⟩
  rcases List.mem_append.mp hp with hp | hp
  · exact h3 p (List.mem_append.mpr (.inl hp))
  · exact ho _ h1 p hp

/-- what the list's change leaves -/
theorem own_put {ys ys' : List Value} {k k' : Nat} {c : Addr} {h h' : Heap} (N : News h₀ L h (n ++ J)) (o : Off n J) (hm : (c, PySem.W.listOf ys.toArray k) ∈ n) (F : Fr h₀ L h m) (hs : Heap.SameBut c h h') (ho : h'.get? c = some (PySem.W.listOf ys'.toArray k')) :
    Fr h₀ L h' m ∧ News h₀ L h' (putc c (PySem.W.listOf ys'.toArray k') n ++ J) ∧ Off (putc c (PySem.W.listOf ys'.toArray k') n) J := by
  have Nc := N _ (List.mem_append.mpr (.inl hm))
  refine ⟨F.change hs Nc.2.1 Nc.2.2, fun q hq => ?_, fun q hq p hp => ?_⟩
  · rcases List.mem_append.mp hq with hq | hq
    · rcases putc_of hq with rfl | ⟨hq, hne⟩
      · exact ⟨ho, Nc.2⟩
      · have z := N q (List.mem_append.mpr (.inl hq)); exact ⟨hs.extBut _ _ hne z.1, z.2⟩
    · have z := N q (List.mem_append.mpr (.inr hq)); exact ⟨hs.extBut _ _ (o _ hm q hq) z.1, z.2⟩
  · rcases putc_of hq with rfl | ⟨hq, hne⟩
    · exact o _ hm p hp
    · exact o _ hq p hp

theorem blk_append {ps : Pos} (O : OwnL env L m n I x ds ρ) (h1 : Ex prog w A env h₀ L m (n ++ I) e d) (hd : sc d = true) (hz : ds.length ≤ sizeLine) (h2 : ∀ n', OwnL env L m n' I x (ds ++ [d]) ρ → Blk prog w A env h₀ L I r rest m n' Nx)
    (hk : env.scope.kind = .function := by rfl) (hx : (x == ("__debug__" : PySem.Str)) = false := by decide) (he : MethEq (.Name x np) "append" ap [e] pos env pl := by rfl) (he2 : starEach [e] env = (false, eval e env) :: starEach [] env := by rfl)
    (hi : interactive env = false := by rfl) (hw : swapsWith (.Call (.Attribute (.Name x np) "append" ap) [e] [] pos) none ps.line env = pure false := by rfl) :
    Blk prog w A env h₀ L I r (.Expr (.Call (.Attribute (.Name x np) "append" ap) [e] [] pos) ps :: rest) m n Nx := by
  intro J s Q E hs F N o kr kn
  obtain ⟨c, ys, kk, n₀, g1, g2, g3, g4, g5, g6⟩ := O
  refine wpAny_execs_cons (wpAny_Expr (MethodCall' he (name_at g4 (fun p hp => Sub.front hs p (sub_right g2 p hp)) F N ?_ hk hx)) hi hw)
  refine getMethod_append_N N (List.mem_append.mpr (.inl g1)) ?_
  refine callWith_method1 (spliced_more (h1 (n ++ J) s _ _ (Sub.front hs) F N fun v nw h' tk F' N' o' D => spliced_none ?_) he2) he2
  have hm : (c, PySem.W.listOf ys.toArray kk) ∈ nw ++ n := List.mem_append.mpr (.inr g1)
  have N'' : News h₀ L h' ((nw ++ n) ++ J) := by rw [List.append_assoc]; exact N'
  refine append_at (hsz := by rw [List.size_toArray, g5.length]; exact hz) (N' _ (List.mem_append.mpr (.inr (List.mem_append.mpr (.inl g1))))).1 fun h2' hs2 ho2 => ?_
  have ho3 : h2'.get? c = some (PySem.W.listOf (ys ++ [v]).toArray (kk + 1)) := by rw [ho2]; simp
  obtain ⟨F3, N3, o3⟩ := own_put N'' (o'.app o) hm F' hs2 ho3
  refine h2 _ ⟨c, ys ++ [v], kk + 1, n₀, putc_new hm, fun p hp => putc_mem (List.mem_append.mpr (.inr (g2 p hp))) (g3 p (List.mem_append.mpr (.inl hp))), g3, g4, g5.append (.cons (dat_sc hd D) .nil), g6⟩ J _ Q E hs F3 N3 o3 kr kn

theorem sc_all {K K' : Led} : ∀ {vs : List Value} {ds : List Dat}, (ds.all sc) = true → DatAll K vs ds → DatAll K' vs ds
  | _, _, _, .nil => .nil
  | _, _, h, .cons a r => by
    rw [List.all_cons, Bool.and_eq_true] at h
    exact .cons (dat_sc h.1 a) (sc_all h.2 r)
theorem blk_extend {ps : Pos} (O : OwnL env L m n I x ds ρ) (h1 : Ex prog w A env h₀ L m (n ++ I) e (.list ds2)) (hd : (ds2.all sc) = true) (hne : 0 < ds2.length) (hz : ds.length + ds2.length ≤ sizeLine) (h2 : ∀ n', OwnL env L m n' I x (ds ++ ds2) ρ → Blk prog w A env h₀ L I r rest m n' Nx)
    (hk : env.scope.kind = .function := by rfl) (hx : (x == ("__debug__" : PySem.Str)) = false := by decide) (he : MethEq (.Name x np) "extend" ap [e] pos env pl := by rfl) (he2 : starEach [e] env = (false, eval e env) :: starEach [] env := by rfl)
    (hi : interactive env = false := by rfl) (hw : swapsWith (.Call (.Attribute (.Name x np) "extend" ap) [e] [] pos) none ps.line env = pure false := by rfl) :
    Blk prog w A env h₀ L I r (.Expr (.Call (.Attribute (.Name x np) "extend" ap) [e] [] pos) ps :: rest) m n Nx := by
  intro J s Q E hs F N o kr kn
  obtain ⟨c, ys, kk, n₀, g1, g2, g3, g4, g5, g6⟩ := O
  refine wpAny_execs_cons (wpAny_Expr (MethodCall' he (name_at g4 (fun p hp => Sub.front hs p (sub_right g2 p hp)) F N ?_ hk hx)) hi hw)
  refine kf_method N (List.mem_append.mpr (.inl g1)) PySem.F.slot_list_extend PySem.F.type_list_extend ?_
  refine callWith_method1 (spliced_more (Ex.lst h1 (Sub.front hs) F N fun b vs k2 nw h' tk F' N' o' hb D => spliced_none ?_) he2) he2
  have hm : (c, PySem.W.listOf ys.toArray kk) ∈ nw ++ n := List.mem_append.mpr (.inr g1)
  have N'' : News h₀ L h' ((nw ++ n) ++ J) := by rw [List.append_assoc]; exact N'
  have l1 := g5.length
  have l2 := D.length
  have hfit : ¬(!ys.toArray.isEmpty && Builtin.List.listTooLong (ys.toArray.size + vs.toArray.size)) = true := by
    rw [List.size_toArray, List.size_toArray, l1, l2]
    have : Builtin.List.listTooLong (ds.length + ds2.length) = false := by
      unfold Builtin.List.listTooLong
      rw [sizeLine_eq] at hz
      simp [sizeLine]
      omega
    rw [this]; simp
  refine call_meets PySem.F.slot_list_extend ⟨_, (N'' _ (List.mem_append.mpr (.inl hm))).1, rfl⟩ PySem.F.entry_list_extend (PySem.F.args_list_extend_2 _ _) (PySem.AutoSeq1.list_extend_list_list_0 c ys.toArray kk b vs.toArray k2 hfit (by rw [List.size_toArray, l1]; omega) (by rw [List.size_toArray, List.size_toArray, l1, l2]; omega))
    ⟨(N'' _ (List.mem_append.mpr (.inl hm))).1, (N' _ (mem_up (Sub.front hs) hb)).1, ?_⟩
  have ho3 : (h'.update c (Obj.mapSeq fun x => x ++ vs.toArray)).get? c = some (PySem.W.listOf (ys ++ vs).toArray (kk + 1)) := by
    have q := PySem.IsL.update (n := kk) (N'' _ (List.mem_append.mpr (.inl hm))).1 (fun x => x ++ vs.toArray)
    rw [if_neg (by
      intro e
      have e2 := beq_iff_eq.mp e
      rw [Array.size_append, List.size_toArray, List.size_toArray] at e2
      omega)] at q
    have e : ys.toArray ++ vs.toArray = (ys ++ vs).toArray := by simp
    rw [e] at q
    exact q
  obtain ⟨F3, N3, o3⟩ := own_put N'' (o'.app o) hm F' (Heap.SameBut.update ..) ho3
  refine h2 _ ⟨c, ys ++ vs, kk + 1, n₀, putc_new hm, fun p hp => putc_mem (List.mem_append.mpr (.inr (g2 p hp))) (g3 p (List.mem_append.mpr (.inl hp))), g3, g4, g5.append (sc_all hd D), g6⟩ J _ Q E hs F3 N3 o3 kr kn

/-- y = v: what stood stands, and y holds v -/
theorem Sto.keep (h : Sto env L m y v n n' m') (V : VC env L m n I ρ) {hp : Heap} (N : News h₀ L hp (n ++ I)) (hy : ((ρ.map (·.1)).all fun z => z != y) = true) : VC env L m' n' I ρ := by
  rcases h with ⟨h1, h2, rfl, rfl⟩ | ⟨h1, rfl, c, o, o', h2, hm, ⟨v₀, hd⟩, hd', rfl⟩
  · refine ⟨V.v.upd fun p hp => ?_, V.c, V.a⟩
    rw [List.all_map] at hy
    simpa using List.all_eq_true.mp hy p hp
  · have hh : Sto env L m' y v n (putc c o' n) m' := .inr ⟨h1, rfl, c, o, o', h2, hm, ⟨v₀, hd⟩, hd', rfl⟩
    have hyy : ∀ p ∈ ρ, p.1 ≠ y := fun p hp => by
      rw [List.all_map] at hy
      simpa using List.all_eq_true.mp hy p hp
    have uniq : ∀ q ∈ n ++ I, q.1 = c → q.2 = o := fun q hq e => by
      have z := (N q hq).1
      rw [e] at z
      have z2 := (N (c, o) (List.mem_append.mpr (.inl hm))).1
      rw [z] at z2; cases z2; rfl
    have mv : ∀ q ∈ n ++ I, q.1 ≠ c → q ∈ putc c o' n ++ I := fun q hq hne => by
      rcases List.mem_append.mp hq with h | h
      · exact List.mem_append.mpr (.inl (putc_mem h hne))
      · exact List.mem_append.mpr (.inr h)
    refine ⟨fun q hq => ?_, fun z cz hz => ?_, V.a⟩
    · obtain ⟨u, ha, Du⟩ := V.v q hq
      refine ⟨u, ?_, hh.dat N Du⟩
      cases ha with
      | loc a1 a2 a3 => exact .loc a1 a2 a3
      | cell c2 o2 a1 a2 a3 a4 =>
        refine .cell c2 o2 a1 a2 (mv _ a3 fun e => ?_) a4
        have e' : c2 = c := e
        subst e'
        exact hyy q hq (V.a _ _ _ a2 h2)
      | comp oC m₂ a1 a2 a3 a4 =>
        refine .comp oC m₂ a1 (mv _ a2 fun e => ?_) a3 a4
        have z := uniq _ a2 e
        obtain ⟨es, ep, hdd, _⟩ := a3
        have z' : oC = o := z
        rw [z', hd] at hdd; cases hdd
    · by_cases e : cz = c
      · subst e; exact ⟨o', _, putc_new hm, hd'⟩
      · obtain ⟨oz, vz, a, bb⟩ := V.c z cz hz
        exact ⟨oz, vz, putc_mem a e, bb⟩
theorem Sto.at (h : Sto env L m y v n n' m') : VarAt env L m' (n' ++ I) y v := by
  rcases h with ⟨h1, h2, rfl, rfl⟩ | ⟨h1, rfl, c, o, o', h2, hm, ⟨v₀, hd⟩, hd', rfl⟩
  · exact .loc h2 h1 (by simp [upd])
  · exact .cell c o' h1 h2 (List.mem_append.mpr (.inl (putc_new hm))) hd'

/-- y = [e1, ..]: a list of its own -/
theorem blk_new {es : List PySem.Expr} {py ps : Pos} (V : VC env L m n I ρ) (h1 : Args prog w A env h₀ L m (n ++ I) es ds) (hz : ds.length ≤ sizeLine) (h2 : ∀ m' n', OwnL env L m' n' I y ds ρ → Blk prog w A env h₀ L I r rest m' n' Nx) (hsc : (ds.all sc) = true)
    (hy : CanSto env L y) (hk : env.scope.kind = .function := by rfl) (hn : ((ρ.map (·.1)).all fun z => z != y) = true := by with_unfolding_all rfl) (hw : swapsWith (.List es pos) (some (.Name y py)) ps.line env = pure false := by rfl) :
    Blk prog w A env h₀ L I r (.Assign [.Name y py] (.List es pos) ps :: rest) m n Nx := by
  intro J s Q E hs F N o kr kn
  refine wpAny_execs_cons (wpAny_Assign_Name (List_ (h1 pos (n ++ J) s _ E (Sub.front hs) F N fun vs nw h' tk F' N' o' D => ?_)) hw)
  refine newList_N F' N' (fun h2' F2 N2 => ?_) (by rw [D.length]; exact hz)
  have hlt : ∀ q ∈ nw ++ (n ++ J), (@Ne Nat q.1 h'.objs.size) := fun q hq => Nat.ne_of_lt (Heap.lt_size (N' q hq).1)
  have N3 : News h₀ L h2' ((nw ++ n) ++ ((h'.objs.size, PySem.W.listOf vs.toArray 0) :: J)) := fun q hq => by
    refine N2 q ?_
    rcases List.mem_append.mp hq with h | h
    · exact List.mem_cons.mpr (.inr (by rw [← List.append_assoc]; exact List.mem_append.mpr (.inl h)))
    · rcases List.mem_cons.mp h with rfl | h
      · exact List.mem_cons_self
      · exact List.mem_cons.mpr (.inr (by rw [← List.append_assoc]; exact List.mem_append.mpr (.inr h)))
  have o3 : Off (nw ++ n) ((h'.objs.size, PySem.W.listOf vs.toArray 0) :: J) := fun q hq z hzz => by
    rcases List.mem_cons.mp hzz with rfl | hzz
    · exact fun e => hlt q (by rw [← List.append_assoc]; exact List.mem_append.mpr (.inl hq)) e.symm
    · exact (o'.app o) q hq z hzz
  refine store hk hy V.c.app F2 N3 o3 fun h4 n4 m4 tk4 st F4 N4 o4 => ?_
  have Vb : VC env L m (nw ++ n) I ρ := ⟨by rw [List.append_assoc]; exact V.v.mono (Sub.app Sub.rfl), V.c.app, V.a⟩
  have NI : News h₀ L h2' ((nw ++ n) ++ I) := fun q hq => N3 q (Sub.front (Sub.cons hs) q hq)
  refine h2 m4 ((h'.objs.size, PySem.W.listOf vs.toArray 0) :: n4) ⟨h'.objs.size, vs, 0, n4, List.mem_cons_self, fun p hp => List.mem_cons.mpr (.inr hp), fun q hq => ?_, st.at, sc_all hsc D, st.keep Vb NI hn⟩ J _ Q E hs F4 (fun q hq => N4 q ?_) (fun q hq z hzz => ?_) kr kn
  · rcases List.mem_append.mp hq with h | h
    · exact fun e => o4 q h _ List.mem_cons_self e.symm
    · exact hlt q (List.mem_append.mpr (.inr (List.mem_append.mpr (.inr (hs q h)))))
  · rw [List.cons_append] at hq
    rcases List.mem_cons.mp hq with rfl | h
    · exact List.mem_append.mpr (.inr List.mem_cons_self)
    · rcases List.mem_append.mp h with h | h
      · exact List.mem_append.mpr (.inl h)
      · exact List.mem_append.mpr (.inr (List.mem_cons.mpr (.inr h)))
  · rcases List.mem_cons.mp hq with rfl | hq
    · exact hlt z (List.mem_append.mpr (.inr (List.mem_append.mpr (.inr hzz))))
    · exact o4 q hq z (List.mem_cons.mpr (.inr hzz))
end
end Mine
end
section
/-! part FwO -/
open PySem PySem.W PyProof.Rows PySem.Spec PySem.Calls PyProof.V
set_option maxRecDepth 100000
namespace Mine
section
variable {prog : Program} {w : World} {K : Frag} {p : Program} {loose : List PySem.Str} {mean : ExcName → Option Value} {mg mb : Mp} {A : Around} {env : Env} {h₀ : Heap} {L C D : Addr} {m m' : Mp} {I I₀ J P n n' nw : Led} {ρ ρ' ρc ρf : List (PySem.Str × Dat)} {out items ds ds2 : List Dat} {s₀ s : Shared} {e e1 e2 elt iter iter2 : PySem.Expr} {d r : Dat} {scope : Scope} {cl : List (PySem.Str × Addr)} {pos np ap : Pos} {k : Nat} {a b : Int} {pl : Sem Bool} {x y : PySem.Str} {v : Value}
variable {body rest orelse : List Stmt} {Nx Nx' : Mp → Led → Prop}

theorem Ex.tup {J : Led} {s : Shared} {Q E : Value → Shared → Prop} {ds : List Dat} (h : Ex prog w A env h₀ L m I e (.tuple ds)) (hs : Sub I J) (F : Fr h₀ L s.heap m) (N : News h₀ L s.heap J)
    (k : ∀ a vs n nw h' tk, Fr h₀ L h' m → News h₀ L h' (nw ++ J) → Off nw J → (a, ({ cls := .type "tuple", data := .seq vs.toArray n } : Obj)) ∈ nw ++ I → DatAll (nw ++ I) vs ds → Q (.ref a) { s with heap := h', toks := tk }) : wpAny (model prog w) A (eval e env) Q E s :=
  h J s Q E hs F N fun v nw h' tk F' N' o D => by cases D with | tuple hm r => exact k _ _ _ nw h' tk F' N' o hm r

theorem tr_tup (h1 : Ex prog w A env h₀ L m I e (.tuple ds)) (hz : ds.length < 2 ^ 62) (he : ∀ whole, PySem.isTrue e env whole = (do let v ← whole; standAt e.pos; holding [v] (truthy v)) := by intro _; rfl) : Tr prog w A env h₀ L m I e (!ds.isEmpty) := by
  intro J s Q E hs F N h
  refine isTrue_plain (Ex.tup h1 hs F N fun a vs n nw h' tk F' N' o hm D => ?_) (he _)
  have hlen := D.length
  refine truthy_tuple ⟨_, (N' _ (mem_up hs hm)).1, rfl, _, rfl⟩ (by rw [List.size_toArray, hlen]; omega) ?_
  have e : (!vs.toArray.isEmpty) = !ds.isEmpty := by
    rw [List.isEmpty_toArray]
    cases vs <;> cases ds <;> simp_all
  rw [e]
  exact h h' _ F' (drop_mid N')
theorem ex_item_tup (h1 : Ex prog w A env h₀ L m I e1 (.tuple ds)) (h2 : Ex prog w A env h₀ L m I e2 (.int a)) (h0 : 0 ≤ a) (hk : ds[a.toNat]? = some d) (hz : a < 2 ^ 63)
    (hsub : SubEq e2 := by unfold SubEq; intros; with_unfolding_all rfl) : Ex prog w A env h₀ L m I (.Subscript e1 e2 pos) d := by
  intro J s Q E hs F N h
  refine Subscript_ (Ex.tup h1 hs F N fun c vs n nw h' tk F' N' o hm D => Ex.int h2 (hs.app) F' N' fun u h'' tk' F'' N'' => ?_)
  obtain ⟨hlt, hd⟩ := List.getElem?_eq_some_iff.mp hk
  obtain ⟨v, hv, Dv⟩ := D.get hlt
  have hlen := D.length
  refine kba_turn (value' := PySem.Expr.Name (PySem.Str.ofString "_") ⟨0, 0, 0, 0⟩) (fun _ => rfl) ?_
  refine item_tupleL (j := a.toNat) ⟨_, (N'' _ (mem_up hs hm)).1, rfl, _, rfl⟩ (by omega) hz ?_ hv ?_ (hsub _ _ _) (fun _ => rfl)
  · unfold seqIndex?
    have : a.toNat < vs.length := by omega
    simp
    omega
  · refine h v nw _ _ F'' N'' o ?_
    rw [← hd]; exact Dv
theorem ex_tail_tup {sp : Pos} (h1 : Ex prog w A env h₀ L m I e1 (.tuple ds)) (h2 : Ex prog w A env h₀ L m I e2 (.int a)) (ha : 1 ≤ a) (ha2 : a ≤ ds.length) (hz : ds.length ≤ sizeLine)
    (hsub : ∀ t b, subscripted (.Slice (some e2) none none sp) false (.ref t) (.ref b) = operate [.ref b, .ref t] (getItem (.ref t) (.ref b)) := by intros; with_unfolding_all rfl) :
    Ex prog w A env h₀ L m I (.Subscript e1 (.Slice (some e2) none none sp) pos) (.tuple (ds.drop a.toNat)) := by
  intro J s Q E hs F N h
  refine Subscript_ (Ex.tup h1 hs F N fun c vs n nw h' tk F' N' o hm D => wpAny_Slice (evalPart_some_step (Ex.int h2 hs.app F' N' fun u h'' tk' F'' N'' => evalPart_none_step (evalPart_none_step ?_))))
  have hlen := D.length
  obtain ⟨z, rfl⟩ : ∃ z : Nat, a = (z : Int) := ⟨a.toNat, by omega⟩
  refine kba_turn (value' := PySem.Expr.Name (PySem.Str.ofString "_") ⟨0, 0, 0, 0⟩) (fun _ => rfl) ?_
  refine slice_tuple_from (s := { s with heap := h'', toks := tk' }) F'' N'' ⟨_, (N'' _ (mem_up hs hm)).1, rfl, _, rfl⟩ (by omega) (by rw [List.size_toArray]; omega) (fun h3 F3 N3 => ?_) (hsub _ _) (fun _ => rfl) (by rw [List.size_toArray, hlen]; exact hz)
  refine h _ (_ :: nw) h3 tk' F3 N3 (fun q hq p hp => ?_) (.tuple List.mem_cons_self (all_mono (Sub.cons Sub.rfl) ?_))
  · rcases List.mem_cons.mp hq with rfl | hq
    · exact Nat.ne_of_lt (Nat.lt_succ_of_lt (Heap.lt_size (N'' p (List.mem_append.mpr (.inr hp))).1))
    · exact o q hq p hp
  · have : ∀ (k : Nat) {vs : List Value} {ds : List Dat}, DatAll (nw ++ I) vs ds → DatAll (nw ++ I) (vs.drop k) (ds.drop k) := by
      intro k
      induction k with
      | zero => intro vs ds h; exact h
      | succ k ih =>
        intro vs ds h
        cases h with
        | nil => exact .nil
        | cons a r => exact ih r
    exact this _ D

theorem blk_while {ps : Pos} {N₀ : Nat} (Inv : Nat → Mp → Led → Prop) (h0 : Inv N₀ m n) (test : ∀ j m n, Inv j m n → Tr prog w A env h₀ L m (n ++ I) e (decide (0 < j)))
    (step : ∀ j m n, Inv (j + 1) m n → Blk prog w A env h₀ L I r body m n (Inv j)) (hr : ∀ m n, Inv 0 m n → Blk prog w A env h₀ L I r rest m n Nx) :
    Blk prog w A env h₀ L I r (.While e body [] ps :: rest) m n Nx := by
  intro J s Q E hs F N o kr kn
  refine wpAny_execs_cons (wpAny_While ?_)
  refine codeAny_whileLoop (fun j s' => ∃ m₁ n₁ h tk, s' = { s with heap := h, toks := tk } ∧ Fr h₀ L h m₁ ∧ News h₀ L h (n₁ ++ J) ∧ Off n₁ J ∧ Inv j m₁ n₁) (fun j s' hI => ?_) N₀ ⟨m, n, s.heap, s.toks, rfl, F, N, o, h0⟩
  obtain ⟨m₁, n₁, h, tk, rfl, F1, N1, o1, hinv⟩ := hI
  refine test j m₁ n₁ hinv (n₁ ++ J) _ _ _ (Sub.front hs) F1 N1 fun h2 tk2 F2 N2 => ?_
  cases j with
  | zero =>
    rw [if_neg (by simp)]
    exact wpAny_execs_nil (hr m₁ n₁ hinv J _ Q E hs F2 N2 o1 kr kn)
  | succ j =>
    rw [if_pos (by simp)]
    exact step j m₁ n₁ hinv J _ _ _ hs F2 N2 o1 (fun v nw h' tk m' F' N' o' D => kr v nw h' tk m' F' N' o' D) fun m' n' h' tk F' N' o' hi => ⟨j, Nat.lt_succ_self _, m', n', h', tk, rfl, F', N', o', hi⟩

theorem all_split {J : Led} : ∀ {ds1 ds2 : List Dat} {vs : List Value}, DatAll J vs (ds1 ++ ds2) → ∃ v1 v2, vs = v1 ++ v2 ∧ DatAll J v1 ds1 ∧ DatAll J v2 ds2
  | [], ds2, vs, h => ⟨[], vs, rfl, .nil, h⟩
  | d :: r, ds2, vs, h => by
    cases h with
    | cons a t =>
      obtain ⟨v1, v2, rfl, h1, h2⟩ := all_split t
      exact ⟨_ :: v1, v2, rfl, .cons a h1, h2⟩

theorem peek_rest {K : Frag} {S : Setting} {f : FuncData} {a : Value} {vs : List Value} (x y : PySem.Str) (hz : vs.length ≤ sizeLine)
    (h : bindArgs f ⟨a :: vs, []⟩ = (newTuple vs >>= fun t => pure [(x, a), (y, t)])) :
    ∃ g₁, peek1 K S (bindArgs f ⟨a :: vs, []⟩) = some (({ cls := .type "tuple", data := .seq vs.toArray } : Obj), g₁) ∧ ∀ D, g₁ D = some [(x, a), (y, .ref D)] := by
  rw [h]
  have e : newTuple vs = newObjAsIs (.type "tuple") (.seq vs.toArray) := by
    unfold newTuple newObj
    dsimp only
    rw [if_neg (by rw [List.size_toArray]; omega)]
  rw [e]
  exact ⟨_, rfl, fun D => rfl⟩

/-- a def with one name and the rest -/
theorem fn_rest {name qual : PySem.Str} {params : Arguments} {scope : Scope} {dV kV doc pm cdv ct oc : Value} {an od : Option Addr} {osl : Array (Option Value)} {f : Addr} {d₁ : Dat} {rs : List Dat} (x y : PySem.Str) (hxy : x ≠ y)
    (ho : K.lookup f = some ⟨oc, od, .func (fnOf name qual params body scope dV kV doc pm an cdv ct), osl⟩) (hcd : codeIn K cdv qual = true)
    (hpos : params.posonlyargs.length + params.args.length = 1)
    (hp : ∀ (a : Value) (vs : List Value), vs.length = rs.length → ∃ g₁, peek1 K ⟨prog, w.params⟩ (bindArgs (fnOf name qual params body scope dV kV doc pm an cdv ct) ⟨a :: vs, []⟩) = some (({ cls := .type "tuple", data := .seq vs.toArray } : Obj), g₁) ∧ ∀ D, g₁ D = some [(x, a), (y, .ref D)])
    (hlx : scope.names.lookup x = some .local) (hly : scope.names.lookup y = some .local) (hcell : (scope.names.all fun x => decide (x.2 ≠ .cell)) = true)
    (hb : ∀ (A : Around) (h₀ : Heap) (L : Addr) (I n : Led) (m : Mp), Site K p loose mean mg mb A h₀ L k → Vars (envOf qual scope L f cdv) L m (n ++ I) [(x, d₁), (y, .tuple rs)] → Blk prog w A (envOf qual scope L f cdv) h₀ L I r body m n NoNx)
    (hco : scope.isCoroutine = false := by rfl) (hgen : scope.isGenerator = false := by rfl) (hk : scope.kind = .function := by rfl) : Fn prog w K p loose mean mg mb f (k + 1) (d₁ :: rs) r := by
  intro A h₀ L m I J s vs Q E S hs F N D h
  obtain ⟨X, T, hh, hd, hu, env, outer, A₀, base, B, hA, hf, hke⟩ := S
  cases D with
  | cons Da Dr =>
    rename_i a vs
    obtain ⟨g₁, hp1, hp2⟩ := hp a vs Dr.length
    refine wpAny_call (kp_rest (K := K) (vs := vs) (binds := fun D => [(x, a), (y, .ref D)]) B F X N T hA hf hke ho hcd (by omega) (by rw [hpos]; rfl) hp1 hp2 (fun D q hq => ?_) (fun D g L' h₁ hlt FG F' N' B' X' T' => ?_) hco hgen hk (fun x hx => of_decide_eq_true (List.all_eq_true.mp hcell x hx)))
    · rcases List.mem_cons.mp hq with rfl | hq
      · exact hlx
      · rcases List.mem_cons.mp hq with rfl | hq
        · exact hly
        · exact nomatch hq
    · have S' : Site K p loose mean mg mb (A.deeper (envOf qual scope L' f cdv)) g L' k := by
        refine ⟨X', T', hh, ?_, ?_, envOf qual scope L' f cdv, env :: outer, A, base, B', ?_, rfl, hk⟩
        · show A.depth + 1 + k < _; omega
        · show A.units + 3 + 8 * k + 64 < _; omega
        · show A.frames.map _ = _; rw [hA]; rfl
      refine hb _ g L' I [(D, ({ cls := .type "tuple", data := .seq vs.toArray } : Obj))] _ S' (fun q hq => ?_) J _ _ _ hs F' N' (fun q hq p hp => ?_) (fun v nw h' tk m' F2 N2 o D2 => ?_) fun _ _ _ _ _ _ _ x => x.elim
      · rcases List.mem_cons.mp hq with rfl | hq
        · refine ⟨a, .loc rfl hlx ?_, dat_mono (Sub.app Sub.rfl) Da⟩
          show List.lookup x [(y, Value.ref D), (x, a)] = some a
          rw [List.lookup_cons, beq_false_of_ne hxy, List.lookup_cons, beq_self_eq_true]
        · rcases List.mem_cons.mp hq with rfl | hq
          · refine ⟨.ref D, .loc rfl hly ?_, .tuple List.mem_cons_self (all_mono (Sub.cons Sub.rfl) Dr)⟩
            show List.lookup y [(y, Value.ref D), (x, a)] = some _
            rw [List.lookup_cons, beq_self_eq_true]
          · exact nomatch hq
      · rw [List.mem_singleton.mp hq]; exact Nat.ne_of_lt (hlt p hp)
      · exact leaveK_ F2 N2 fun F3 N3 => h v nw h' tk F3 N3 o D2
end
end Mine
end
section
/-! part Fn3 -/
open PySem PySem.W PyProof.Rows PySem.Spec PySem.Calls PyProof.V
set_option maxRecDepth 100000
namespace Mine
variable {w : World} {mean : ExcName → Option Value} {mg mb : Mp}

def repl : PySem.Str → List PySem.Str → PySem.Str
  | t, a :: b :: r => repl (Txt.join b (Txt.split t a)) r
  | t, _ => t
def RepOk : PySem.Str → List PySem.Str → Prop
  | t, a :: b :: r => (a.length == 0) = false ∧ t.length + 2 ≤ sizeLine ∧ JoinOk b (Txt.split t a) = true ∧ RepOk (Txt.join b (Txt.split t a)) r
  | _, [] => True
  | _, [_] => False

theorem rep_step {t : PySem.Str} {rs : List PySem.Str} {j : Nat} (h : RepOk t rs) (hl : rs.length = 2 * (j + 1)) : ∃ a b r, rs = a :: b :: r ∧ r.length = 2 * j := by
  match rs, hl with
  | a :: b :: r, hl => exact ⟨a, b, r, rfl, by simp at hl; omega⟩

theorem fn_replace (t : PySem.Str) (rs : List PySem.Str) (hr : RepOk t rs) (hz : rs.length ≤ 1000) (he : rs.length % 2 = 0) : FnP w mean mg mb 38 1 (.str t :: dstrs rs) (.str (repl t rs)) := by
  refine fn_rest (k := 0) (Str.ofString "text") (Str.ofString "pairs") (by decide) (ho := by with_unfolding_all rfl) (by with_unfolding_all rfl) (by rfl) (fun a vs hl => peek_rest _ _ (by rw [hl, List.length_map, sizeLine_eq]; omega) (by cases vs <;> with_unfolding_all rfl)) (by with_unfolding_all rfl) (by with_unfolding_all rfl) (by with_unfolding_all rfl) ?_
  intro A h₀ L I n m S V
  refine blk_while (N₀ := rs.length / 2) (fun j m n => ∃ t' rs', Vars _ L m (n ++ I) [(Str.ofString "text", .str t'), (Str.ofString "pairs", .tuple (dstrs rs'))] ∧ RepOk t' rs' ∧ rs'.length = 2 * j ∧ rs'.length ≤ 1000 ∧ repl t' rs' = repl t rs)
    ⟨t, rs, V, hr, by omega, hz, rfl⟩ (fun j m n hI => ?_) (fun j m n hI => ?_) (fun m n hI => ?_)
  · obtain ⟨t', rs', V, ho, hl, hz', hq⟩ := hI
    have e : (!(dstrs rs').isEmpty) = decide (0 < j) := by
      cases rs' with
      | nil => simp at hl; have : j = 0 := by omega
               subst this; rfl
      | cons a r => simp at hl; have : 0 < j := by omega
                    simp [this]
    rw [← e]; exact tr_tup (ex_name V (.tail _ (.head _)) rfl) (by rw [List.length_map]; omega)
  · obtain ⟨t', rs', V, ho, hl, hz', hq⟩ := hI
    obtain ⟨a, b, r, rfl, hl2⟩ := rep_step ho hl
    obtain ⟨h1, h2, h3, h4⟩ := ho
    have hp : ∀ pos, Ex prog w A _ h₀ L _ _ (.Name (Str.ofString "pairs") pos) (.tuple (dstrs (a :: b :: r))) := fun pos => ex_name (pos := pos) V (.tail _ (.head _)) rfl
    refine blk_put (V.sub (ρ' := [(Str.ofString "pairs", Dat.tuple (dstrs (a :: b :: r)))]) (fun p hp => .tail _ hp))
      (ex_join (ex_item_tup (hp _) (ex_int _ _) (by decide) rfl (by decide)) (ex_split (ex_name V (.head _) rfl) (ex_item_tup (hp _) (ex_int _ _) (by decide) rfl (by decide)) h1 h2) h3) fun m n V => ?_
    have hp : ∀ pos, Ex prog w A _ h₀ L _ _ (.Name (Str.ofString "pairs") pos) (.tuple (dstrs (a :: b :: r))) := fun pos => ex_name (pos := pos) V (.tail _ (.head _)) rfl
    refine blk_put (V.sub (ρ' := [(Str.ofString "text", Dat.str (Txt.join b (Txt.split t' a)))]) (fun p hp => by rcases List.mem_singleton.mp hp with rfl; exact .head _))
      (ex_tail_tup (hp _) (ex_int _ _) (by decide) (by rw [List.length_map]; simp; omega) (by rw [List.length_map, sizeLine_eq]; omega)) fun m n V => ?_
    refine blk_nil ⟨_, r, V.sub (fun p hp => ?_), h4, hl2, by simp at hz'; omega, ?_⟩
    · rcases List.mem_cons.mp hp with rfl | hp
      · exact .tail _ (.head _)
      · rcases List.mem_cons.mp hp with rfl | hp
        · exact .head _
        · exact nomatch hp
    · rw [← hq]; rfl
  · obtain ⟨t', rs', V, ho, hl, hz', hq⟩ := hI
    have : rs' = [] := by cases rs' with
      | nil => rfl
      | cons a r => simp at hl
    subst this
    rw [← hq]
    exact blk_return (ex_name V (.head _) rfl)
end Mine
end
section
/-! part Fn4 -/
open PySem PySem.W PyProof.Rows PySem.Spec PySem.Calls PyProof.V
set_option maxRecDepth 100000
namespace Mine
variable {w : World} {mean : ExcName → Option Value} {mg mb : Mp}

def unS : Dat → PySem.Str
  | .str x => x
  | _ => Str.ofString ""
abbrev dot : PySem.Str := Str.ofString "."
def sides2 (nx nm : PySem.Str) : List PySem.Str := [dot ++ nm, dot ++ nx ++ dot ++ nm]
def lawPairs (ns : List PySem.Str) (nx : PySem.Str) : List PySem.Str := ns.flatMap fun nm => if (nm != nx) = true then sides2 nx nm else []
theorem pairs_out (nx : PySem.Str) : ∀ ns : List PySem.Str, (dstrs ns).flatMap (fun d => if (unS d != nx) = true then (dstrs (sides2 nx (unS d))).map (fun d2 => d2) else []) = dstrs (lawPairs ns nx)
  | [] => rfl
  | a :: r => by
    have ih := pairs_out nx r
    unfold lawPairs dstrs at ih ⊢
    rw [List.map_cons, List.flatMap_cons, List.flatMap_cons, List.map_append, ih]
    congr 1
    show (if (a != nx) = true then _ else _) = _
    cases (a != nx) <;> simp [unS]
theorem pairs_len (ns : List PySem.Str) (nx : PySem.Str) : (lawPairs ns nx).length ≤ 2 * ns.length := by
  unfold lawPairs
  induction ns with
  | nil => simp
  | cons a r ih =>
    rw [List.flatMap_cons, List.length_append, List.length_cons]
    have : (if (a != nx) = true then sides2 nx a else []).length ≤ 2 := by split <;> simp [sides2]
    omega

theorem str_len_app (x y : PySem.Str) : (x ++ y).length = x.length + y.length := by show (x.cps ++ y.cps).size = _; rw [Array.size_append]; rfl
theorem dot_len : dot.length = 1 := by decide
theorem mem_dstrs {d : Dat} {l : List PySem.Str} (h : d ∈ dstrs l) : ∃ x ∈ l, d = .str x := by
  obtain ⟨x, a, b⟩ := List.mem_map.mp h; exact ⟨x, a, b.symm⟩

theorem fn_pairs (ns : List PySem.Str) (xi : Int) (nx : PySem.Str) (h0 : 0 ≤ xi) (hx : ns[xi.toNat]? = some nx) (hxi : xi < 1000) (hz : ns.length ≤ 1000) (hl : ∀ nm ∈ ns, nm.length ≤ 1000) :
    FnP w mean mg mb 90 1 [.list (dstrs ns), .int xi] (.list (dstrs (lawPairs ns nx))) := by
  refine fn_enterC (k := 0) [Str.ofString "names", Str.ofString "x"] (ho := by with_unfolding_all rfl) (by with_unfolding_all rfl) (fun vs h => by match vs, h with | [a, b], _ => with_unfolding_all rfl) (by with_unfolding_all rfl) (by decide) rfl (by decide) ?_
  intro A h₀ L I n m S V
  have hnx : nx.length ≤ 1000 := hl nx (List.mem_of_getElem? hx)
  rw [← pairs_out nx ns]
  have hxd : (dstrs ns)[xi.toNat]? = some (.str nx) := by rw [List.getElem?_map, hx]; rfl
  refine blk_return (ex_comp (by rfl) (comp2_is (cl := _) (ρf := [(Str.ofString "names", .list (dstrs ns)), (Str.ofString "x", .int xi)]) (items2 := fun d => dstrs (sides2 nx (unS d))) (t := fun d => unS d != nx) (f := fun _ d2 => d2) (bs := fun d => [(Str.ofString "name", d)]) (bs2 := fun _ d2 => [(Str.ofString "side", d2)])
    S.hd (it_list S.hd (ex_name V.v (.head _) rfl)) rfl (by decide) (by rfl) (by decide) (by intro _; rfl) (vars_comp V.v (fun _ h => h) ?_) (fun d hd => takes_name (fun C => by rfl) (by rfl) (by rfl)) ?_ ?_ ?_ (fun d hd ht d2 hd2 => takes_name (fun C => by rfl) (by rfl) (by rfl)) ?_ ?_ ?_ (by intro _ _; rfl)))
  · exact ⟨⟨rfl, fun _ => rfl, rfl⟩, ⟨rfl, fun _ => rfl, rfl⟩, trivial⟩
  · intro d hd C q hq; rw [List.mem_singleton.mp hq]; rfl
  · intro d hd
    obtain ⟨nm, hnm, rfl⟩ := mem_dstrs hd
    refine .inr ⟨_, rfl, fun C K VV => ?_⟩
    exact tr_ne_str (ex_name VV (.head _) rfl) (ex_item (k := 0) (ex_name VV (.tail _ (.head _)) rfl) (ex_name VV (.tail _ (.tail _ (.head _))) rfl) h0 hxd (by omega))
  · intro d hd ht C K VV
    obtain ⟨nm, hnm, rfl⟩ := mem_dstrs hd
    have hn := hl nm hnm
    show Ex prog w A _ h₀ L m K _ (.list (dstrs (sides2 nx nm)))
    have hdot := dot_len
    have hN : ∀ pos, Ex prog w A _ h₀ L m K (.Name (Str.ofString "name") pos) (.str nm) := fun pos => ex_name (pos := pos) VV (.head _) rfl
    have hX : ∀ p1 p2 p3, Ex prog w A _ h₀ L m K (.Subscript (.Name (Str.ofString "names") p1) (.Name (Str.ofString "x") p2) p3) (.str nx) := fun p1 p2 p3 => ex_item (k := 0) (ex_name VV (.tail _ (.head _)) rfl) (ex_name VV (.tail _ (.tail _ (.head _))) rfl) h0 hxd (by omega)
    refine ex_list (args_cons' (ex_add_str (ex_str _ _) (hN _) (by rw [sizeLine_eq, hdot]; omega)) (args_cons' (ex_add_str (ex_add_str (ex_add_str (ex_str _ _) (hX _ _ _) ?_) (ex_str _ _) ?_) (hN _) ?_) args_nil')) (by rw [sizeLine_eq]; simp [sides2])
    all_goals (rw [sizeLine_eq]; (try simp only [str_len_app]); rw [hdot]; omega)
  · intro d hd ht d2 hd2 C q hq; rw [List.mem_singleton.mp hq]; rfl
  · intro d hd ht d2 hd2 C K VV
    exact ex_name VV (.head _) rfl
  · rw [pairs_out, List.length_map, sizeLine_eq]
    have := pairs_len ns nx
    omega
end Mine
end
section
/-! part FwP -/
open PySem PySem.W PyProof.Rows PySem.Spec PySem.Calls PyProof.V
set_option maxRecDepth 100000
namespace Mine
section
variable {prog : Program} {w : World} {K : Frag} {p : Program} {loose : List PySem.Str} {mean : ExcName → Option Value} {mg mb : Mp} {A : Around} {env : Env} {h₀ : Heap} {L C D : Addr} {m m' : Mp} {I I₀ J P n n' nw : Led} {ρ ρ' ρc ρf : List (PySem.Str × Dat)} {out items ds ds2 : List Dat} {s₀ s : Shared} {e e1 e2 elt iter iter2 : PySem.Expr} {d r : Dat} {scope : Scope} {cl : List (PySem.Str × Addr)} {pos np ap : Pos} {k : Nat} {a b : Int} {pl : Sem Bool} {x y : PySem.Str} {v : Value}
variable {body rest orelse : List Stmt} {Nx Nx' : Mp → Led → Prop}

theorem it2_slice {ds zs : List Dat} {lo hi st : Option PySem.Expr} {l u k : Option Int} {sp : Pos} (hh : A.handled = none) (h1 : Ex prog w A env h₀ L m I e1 (.list ds)) (hlo : PartOk prog w A env h₀ L m I lo l) (hhi : PartOk prog w A env h₀ L m I hi u) (hst : PartOk prog w A env h₀ L m I st k)
    (hk : k ≠ some 0) (hz : ds.length ≤ sizeLine) (he : lpick ds l u k = zs) (hsc : (zs.all sc) = true) (hsub : SliceEq (.Slice lo hi st sp) := by unfold SliceEq; intros; exact ⟨_, by with_unfolding_all rfl⟩) :
    It2 prog w A env h₀ L m I P (.Subscript e1 (.Slice lo hi st sp) pos) zs := by
  intro J s Q E hs F N kk
  refine Subscript_ (Ex.lst h1 hs F N fun c vs n nw h' tk F' N' o hm D => ?_)
  refine wpAny_Slice (hlo.go (hs.app) F' N' fun v1 h2 tk2 F2 N2 p1 => hhi.go (hs.app) F2 N2 fun v2 h3 tk3 F3 N3 p2 => hst.go (hs.app) F3 N3 fun v3 h4 tk4 F4 N4 p3 => ?_)
  have hlen := D.length
  obtain ⟨ops, hsub'⟩ := hsub c h4.objs.size
  refine kba_turn (value' := PySem.Expr.Name (PySem.Str.ofString "_") ⟨0, 0, 0, 0⟩) (fun _ => rfl) ?_
  refine kmk_slice3_lit (s := { s with heap := h4, toks := tk4 }) F4 N4 (News.isList N4 (mem_up hs hm)) p1 p2 p3 hk (zs := lpick vs l u k) ?_ (fun D2 h5 F5 N5 lt => ?_) hsub' (fun _ => rfl) (by simpa [hlen] using hz)
  · simp [slicePick, lpick]
  · have N5' : News h₀ L h5 (((D2, PySem.W.listOf (lpick vs l u k).toArray 0) :: nw) ++ J) := N5
    have hl5 := News.isList N5' List.mem_cons_self
    have hlt : D2 < h5.objs.size := by obtain ⟨_, e, _⟩ := hl5; exact Heap.lt_size e
    have Dz : DatAll (nw ++ I) (lpick vs l u k) zs := by rw [← he]; unfold lpick; rw [hlen]; exact pick_all D _
    have hlen2 : (lpick vs l u k).toArray.size = zs.length := by rw [List.size_toArray, Dz.length]
    refine wpAny_pyIter_list hl5 ?_
    have up : ∀ b o, h5.get? b = some o → (h5.push { cls := .type "list_iterator", data := .fields #[.ref D2, .int 0 0] }).get? b = some o := fun b o e => Heap.get?_push_of_some _ e
    refine kk h5.objs.size ((D2, PySem.W.listOf (lpick vs l u k).toArray 0) :: nw) _ _ (F5.keeps up) (N5'.grown up) (Off.app (n2 := [_]) (Off.one lt) o) (fun p hp => Nat.ne_of_lt (Heap.lt_size (N5' p hp).1)) (Nat.ne_of_lt F5.ns.lt) (next_is_new F5)
      ⟨[h5.objs.size, D2], fun i v => (lpick vs l u k).toArray[i]? = some v, _, hlen2 ▸ Walks.list hh h5.objs.size D2 (Nat.ne_of_lt hlt) (lpick vs l u k).toArray, ⟨⟨_, Heap.get?_push_size _ rfl, rfl, rfl⟩, hl5.push _⟩, fun b hb => ?_, fun i v hi hv => ?_, fun i h st => ?_⟩
    · rcases List.mem_cons.mp hb with rfl | hb
      · exact .inl rfl
      · rcases List.mem_cons.mp hb with rfl | hb
        · exact .inr ⟨_, List.mem_append.mpr (.inl List.mem_cons_self)⟩
        · exact nomatch hb
    · obtain ⟨u2, hu, Du⟩ := Dz.get hi
      refine ⟨_, List.getElem?_eq_getElem hi, fun K => ?_⟩
      have : (lpick vs l u k)[i]? = some v := by simpa using hv
      rw [hu] at this; cases this
      exact dat_sc (List.all_eq_true.mp hsc _ (List.getElem_mem hi)) Du
    · obtain ⟨o, e, _⟩ := st.1; exact ⟨o, e⟩

theorem OwnL.wide (O : OwnL env L m n I x ds ρ) (o : Off nw (n ++ I)) : OwnL env L m n (nw ++ I) x ds ρ := by
  obtain ⟨a, ys, k, n₀, h1, h2, h3, h4, h5, h6⟩ := O
  have s : Sub I (nw ++ I) := Sub.app Sub.rfl
  refine ⟨a, ys, k, n₀, h1, h2, fun p hp => ?_, h4.mono (Sub.front s), all_mono (Sub.front s) h5, h6.widen s⟩
  rcases List.mem_append.mp hp with hp | hp
  · exact h3 p (List.mem_append.mpr (.inl hp))
  · rcases List.mem_append.mp hp with hp | hp
    · exact fun e => o p hp _ (List.mem_append.mpr (.inl h1)) e.symm
    · exact h3 p (List.mem_append.mpr (.inr hp))

/-- another name's change leaves the own list -/
theorem Sto.own (st : Sto env L m y v n n' m') (O : OwnL env L m n I x ds ρ) {hp : Heap} (N : News h₀ L hp (n ++ I)) (hy : ((ρ.map (·.1)).all fun z => z != y) = true) (hx : (x != y) = true) : OwnL env L m' n' I x ds ρ := by
  obtain ⟨a, ys, k, n₀, g1, g2, g3, g4, g5, g6⟩ := O
  have hxy : x ≠ y := by simpa using hx
  rcases st with ⟨h1, h2, rfl, rfl⟩ | ⟨h1, rfl, c, o, o', h2, hm, ⟨v₀, hd⟩, hd', rfl⟩
  · have st' : Sto env L m y v n₀ n₀ (upd m y v) := .inl ⟨h1, h2, rfl, rfl⟩
    refine ⟨a, ys, k, n₀, g1, g2, g3, ?_, g5, st'.keep g6 (fun q hq => N q (sub_right g2 q hq)) hy⟩
    cases g4 with
    | loc a1 a2 a3 => exact .loc a1 a2 (by simp [upd, hxy, a3])
    | cell c o a1 a2 a3 a4 => exact .cell c o a1 a2 a3 a4
    | comp oC m₂ a1 a2 a3 a4 => exact .comp oC m₂ a1 a2 a3 a4
  · obtain ⟨o0, v0, hm0, hd0⟩ := g6.c y c h2
    have N0 : News h₀ L hp (n₀ ++ I) := fun q hq => N q (sub_right g2 q hq)
    have st' : Sto env L m' y v n₀ (putc c o' n₀) m' := .inr ⟨h1, rfl, c, o0, o', h2, hm0, ⟨_, hd0⟩, hd', rfl⟩
    have hac : (@Ne Nat a c) := fun e => g3 (c, o0) (List.mem_append.mpr (.inl hm0)) e.symm
    refine ⟨a, ys, k, putc c o' n₀, putc_mem g1 hac, fun q hq => ?_, fun q hq => ?_, ?_, ?_, st'.keep g6 N0 hy⟩
    · rcases putc_of hq with rfl | ⟨hq, hne⟩
      · exact putc_new hm
      · exact putc_mem (g2 q hq) hne
    · rcases List.mem_append.mp hq with hq | hq
      · rcases putc_of hq with rfl | ⟨hq, hne⟩
        · exact g3 (c, o0) (List.mem_append.mpr (.inl hm0))
        · exact g3 q (List.mem_append.mpr (.inl hq))
      · exact g3 q (List.mem_append.mpr (.inr hq))
    · have uniq : ∀ q ∈ n₀ ++ I, q.1 = c → q.2 = o0 := fun q hq e => by
        have z := (N0 q hq).1
        rw [e] at z
        have z2 := (N0 (c, o0) (List.mem_append.mpr (.inl hm0))).1
        rw [z] at z2; cases z2; rfl
      have mv : ∀ q ∈ n₀ ++ I, q.1 ≠ c → q ∈ putc c o' n₀ ++ I := fun q hq hne => by
        rcases List.mem_append.mp hq with h | h
        · exact List.mem_append.mpr (.inl (putc_mem h hne))
        · exact List.mem_append.mpr (.inr h)
      cases g4 with
      | loc a1 a2 a3 => exact .loc a1 a2 a3
      | cell c2 o2 a1 a2 a3 a4 =>
        refine .cell c2 o2 a1 a2 (mv _ a3 fun e => ?_) a4
        have e' : c2 = c := e
        subst e'
        exact hxy (g6.a _ _ _ a2 h2)
      | comp oC m₂ a1 a2 a3 a4 =>
        refine .comp oC m₂ a1 (mv _ a2 fun e => ?_) a3 a4
        have z := uniq _ a2 e
        obtain ⟨es, ep, hdd, _⟩ := a3
        have z' : oC = o0 := z
        rw [z', hd0] at hdd; cases hdd
    · refine (?_ : DatAll (putc c o' n₀ ++ I) ys ds)
      refine all_strip (sto_sub (C := c) fun q hq e => ?_) g5
      have z := (N0 q hq).1
      rw [e] at z
      have z2 := (N0 (c, o0) (List.mem_append.mpr (.inl hm0))).1
      rw [z] at z2; cases z2
      exact cell_not_seq hd0

/-- y = e beside an own list x -/
theorem blk_putO {py ps : Pos} {ρ' : List (PySem.Str × Dat)} (V : VC env L m n I ρ) (O : OwnL env L m n I x ds ρ') (h1 : Ex prog w A env h₀ L m (n ++ I) e d) (h2 : ∀ m' n', VC env L m' n' I ((y, d) :: ρ) → OwnL env L m' n' I x ds ρ' → Blk prog w A env h₀ L I r rest m' n' Nx)
    (hy : CanSto env L y) (hk : env.scope.kind = .function := by rfl) (hn : ((ρ.map (·.1)).all fun z => z != y) = true := by with_unfolding_all rfl) (hn' : ((ρ'.map (·.1)).all fun z => z != y) = true := by with_unfolding_all rfl) (hx : (x != y) = true := by with_unfolding_all rfl) (hw : swapsWith e (some (.Name y py)) ps.line env = pure false := by rfl) :
    Blk prog w A env h₀ L I r (.Assign [.Name y py] e ps :: rest) m n Nx := by
  intro J s Q E hs F N o kr kn
  refine wpAny_execs_cons (wpAny_Assign_Name (h1 (n ++ J) s _ E (Sub.front hs) F N fun v nw h' tk F' N' o' D => ?_) hw)
  refine store hk hy (n := nw ++ n) V.c.app F' (by rw [List.append_assoc]; exact N') (o'.app o) fun h'' n' m' tk2 st F2 N2 o2 => ?_
  have NI : News h₀ L h' ((nw ++ n) ++ I) := fun q hq => N' q (by rw [List.append_assoc] at hq; exact Sub.front (Sub.front hs) q hq)
  refine h2 m' n' (st.vars (I := I) ⟨by rw [List.append_assoc]; exact V.v.mono (Sub.app Sub.rfl), V.c.app, V.a⟩ NI hn (by rw [List.append_assoc]; exact D)) (st.own (O.up fun p hp => List.mem_append.mpr (.inr hp)) NI hn' hx) J _ Q E hs F2 N2 o2 kr kn

theorem blk_put_compO {gens : List Comprehension} {py ps : Pos} {ρ' : List (PySem.Str × Dat)} (V : VC env L m n I ρ) (O : OwnL env L m n I x ds ρ') (h : IsComp prog w A env h₀ L m (n ++ I) (.ListComp elt gens scope pos) scope (firstIterPos gens pos) (firstIter gens env) out)
    (h2 : ∀ m' n', VC env L m' n' I ((y, .list out) :: ρ) → OwnL env L m' n' I x ds ρ' → Blk prog w A env h₀ L I r rest m' n' Nx) (ha : firstAsync gens = false := by rfl)
    (hl : env.locals = L := by rfl) (hy : env.kindOf y = some .local := by rfl) (hk : env.scope.kind = .function := by rfl) (hn : ((ρ.map (·.1)).all fun z => z != y) = true := by with_unfolding_all rfl) (hn' : ((ρ'.map (·.1)).all fun z => z != y) = true := by with_unfolding_all rfl) (hx : (x != y) = true := by with_unfolding_all rfl)
    (hw : swapsWith (.ListComp elt gens scope pos) (some (.Name y py)) ps.line env = pure true := by rfl) :
    Blk prog w A env h₀ L I r (.Assign [.Name y py] (.ListComp elt gens scope pos) ps :: rest) m n Nx := by
  refine blk_comp ha h (fun D ys nw off o Dy => ?_) hl hy hk hw
  intro J s Q E hs F N oo kr kn
  have st : Sto env L m y (.ref D) ((D, LCg.lst ys) :: (nw ++ n)) ((D, LCg.lst ys) :: (nw ++ n)) (upd m y (.ref D)) := .inl ⟨hy, hl, rfl, rfl⟩
  have NI : News h₀ L s.heap (((D, LCg.lst ys) :: (nw ++ n)) ++ I) := fun q hq => N q (Sub.front hs q hq)
  have sub : Sub n ((D, LCg.lst ys) :: (nw ++ n)) := fun p hp => List.mem_cons.mpr (.inr (List.mem_append.mpr (.inr hp)))
  refine h2 _ _ (st.vars ⟨V.v.mono (sub_right sub), V.c.up sub, V.a⟩ NI hn (lst_mem List.mem_cons_self (all_mono (fun p hp => ?_) Dy))) (st.own (O.up sub) NI hn' hx) J s Q E hs F N oo kr kn
  rw [← List.append_assoc] at hp
  rcases List.mem_append.mp hp with hp | hp
  · exact List.mem_cons.mpr (.inr (List.mem_append.mpr (.inl hp)))
  · exact List.mem_cons.mpr (.inr (List.mem_append.mpr (.inr hp)))
/-- y = [..], y a name of the frame, beside cells -/
theorem blk_putv_comp {gens : List Comprehension} {py ps : Pos} (V : VC env L m n I ρ) (h : IsComp prog w A env h₀ L m (n ++ I) (.ListComp elt gens scope pos) scope (firstIterPos gens pos) (firstIter gens env) out)
    (h2 : ∀ m' n', VC env L m' n' I ((y, .list out) :: ρ) → Blk prog w A env h₀ L I r rest m' n' Nx) (ha : firstAsync gens = false := by rfl)
    (hl : env.locals = L := by rfl) (hy : env.kindOf y = some .local := by rfl) (hk : env.scope.kind = .function := by rfl) (hn : ((ρ.map (·.1)).all fun z => z != y) = true := by with_unfolding_all rfl)
    (hw : swapsWith (.ListComp elt gens scope pos) (some (.Name y py)) ps.line env = pure true := by rfl) :
    Blk prog w A env h₀ L I r (.Assign [.Name y py] (.ListComp elt gens scope pos) ps :: rest) m n Nx := by
  refine blk_comp ha h (fun D ys nw off o Dy => ?_) hl hy hk hw
  intro J s Q E hs F N oo kr kn
  have st : Sto env L m y (.ref D) ((D, LCg.lst ys) :: (nw ++ n)) ((D, LCg.lst ys) :: (nw ++ n)) (upd m y (.ref D)) := .inl ⟨hy, hl, rfl, rfl⟩
  have NI : News h₀ L s.heap (((D, LCg.lst ys) :: (nw ++ n)) ++ I) := fun q hq => N q (Sub.front hs q hq)
  have sub : Sub n ((D, LCg.lst ys) :: (nw ++ n)) := fun p hp => List.mem_cons.mpr (.inr (List.mem_append.mpr (.inr hp)))
  refine h2 _ _ (st.vars ⟨V.v.mono (sub_right sub), V.c.up sub, V.a⟩ NI hn (lst_mem List.mem_cons_self (all_mono (fun p hp => ?_) Dy))) J s Q E hs F N oo kr kn
  rw [← List.append_assoc] at hp
  rcases List.mem_append.mp hp with hp | hp
  · exact List.mem_cons.mpr (.inr (List.mem_append.mpr (.inl hp)))
  · exact List.mem_cons.mpr (.inr (List.mem_append.mpr (.inr hp)))
end
end Mine
end
section
/-! part Fn5 -/
open PySem PySem.W PyProof.Rows PySem.Spec PySem.Calls PyProof.V
set_option maxRecDepth 100000
namespace Mine
variable {w : World} {mean : ExcName → Option Value} {mg mb : Mp}

theorem own_replace (w : World) {env : Env} (hg : env.globals = mainGlobals) (hk : env.scope.kind = .function) (hx : env.kindOf (Str.ofString "replace") = some .globalImplicit) : Own (KK w) env (Str.ofString "replace") 38 :=
  ⟨by with_unfolding_all rfl, by with_unfolding_all rfl, hg, hk, hx, by decide⟩
theorem vc_plain {env : Env} {L : Addr} {m : Mp} {n I : Led} {ρ : List (PySem.Str × Dat)} (V : Vars env L m (n ++ I) ρ) (h : env.cells = []) : VC env L m n I ρ :=
  ⟨V, (fun y c e => by rw [h] at e; cases e), fun x y c e => by rw [h] at e; cases e⟩

def palStep (ns : List PySem.Str) (ps : List (List PySem.Str)) (t : PySem.Str) (x : Nat) : PySem.Str := repl t (ps.getD x []) ++ dot ++ ns.getD x dot
def palRun (ns : List PySem.Str) (ps : List (List PySem.Str)) : PySem.Str → List Nat → List PySem.Str
  | t, [] => [t]
  | t, x :: r => t :: palRun ns ps (palStep ns ps t x) r
def PalOk (ns : List PySem.Str) (ps : List (List PySem.Str)) : PySem.Str → List Nat → Prop
  | _, [] => True
  | t, x :: r => (x < ps.length ∧ x < ns.length ∧ x < 1000) ∧ RepOk t (ps.getD x []) ∧ ((ps.getD x []).length ≤ 1000 ∧ (ps.getD x []).length % 2 = 0) ∧ (palStep ns ps t x).length ≤ sizeLine ∧ PalOk ns ps (palStep ns ps t x) r
def dints (l : List Nat) : List Dat := l.map fun x : Nat => Dat.int (x : Int)
theorem dints_sc : ∀ l : List Nat, (dints l).all sc = true
  | [] => rfl
  | a :: r => dints_sc r
theorem dstrs_sc : ∀ l : List PySem.Str, (dstrs l).all sc = true
  | [] => rfl
  | a :: r => dstrs_sc r
theorem palRun_len (ns : List PySem.Str) (ps : List (List PySem.Str)) : ∀ (xs : List Nat) (t : PySem.Str), (palRun ns ps t xs).length = xs.length + 1
  | [], t => rfl
  | x :: r, t => by unfold palRun; rw [List.length_cons, palRun_len ns ps r]; rfl

theorem fn_pals (ns : List PySem.Str) (ps : List (List PySem.Str)) (ls : List Nat) (ok : PalOk ns ps (Str.ofString "") ls.reverse) (hz : ls.length ≤ 1000) :
    FnP w mean mg mb 97 2 [.list (dstrs ns), .list (ps.map fun l => .list (dstrs l)), .list (dints ls)] (.list (dstrs (palRun ns ps (Str.ofString "") ls.reverse))) := by
  refine fn_enter (k := 1) [Str.ofString "names", Str.ofString "pairs", Str.ofString "letters"] (ho := by with_unfolding_all rfl) (by with_unfolding_all rfl) (fun vs h => by match vs, h with | [a, b, c], _ => with_unfolding_all rfl) (by with_unfolding_all rfl) (by with_unfolding_all rfl) rfl (by decide) ?_
  intro A h₀ L I m S V
  refine blk_new (ds := dstrs [Str.ofString ""]) (vc_plain V rfl) (args_cons' (ex_str _ _) args_nil') (by decide) (fun m n O => ?_) rfl (.inl ⟨rfl, rfl⟩)
  refine blk_for (y := Str.ofString "x") (items := dints ls.reverse) (it2_slice S.hd (ex_name O.vc.v (.tail _ (.tail _ (.tail _ (.head _)))) rfl) (.none) (.none) (.some (ex_neg_int (ex_int _ _))) (by decide) (by rw [dints, List.length_map, sizeLine_eq]; omega) (by rw [lpick_rev, dints, dints, List.map_reverse]) (dints_sc _))
    (fun j m n I' => ∃ pre t, OwnL _ L m n I' (Str.ofString "texts") (dstrs (pre ++ [t])) [(Str.ofString "names", .list (dstrs ns)), (Str.ofString "pairs", .list (ps.map fun l => .list (dstrs l)))] ∧ PalOk ns ps t (ls.reverse.drop j) ∧ pre ++ palRun ns ps t (ls.reverse.drop j) = palRun ns ps (Str.ofString "") ls.reverse)
    (fun nw o => ⟨[], Str.ofString "", (O.sub (fun p hp => ?_)).wide o, ok, rfl⟩) (fun j m n I' ⟨_, _, O, _⟩ => O.vc.c) (.inl ⟨rfl, rfl⟩) rfl (fun I' j d hd hI m₁ n₁ n₂ m₂ v hp ⟨pre, t, O1, ok1, eq1⟩ st N Dv => ?_) (fun nw m' n' ⟨pre, t, O1, ok1, eq1⟩ => ?_)
  · rcases List.mem_cons.mp hp with rfl | hp
    · exact .head _
    · rcases List.mem_cons.mp hp with rfl | hp
      · exact .tail _ (.head _)
      · exact nomatch hp
  · have hj : j < ls.reverse.length := by
      have := (List.getElem?_eq_some_iff.mp hd).1
      rw [dints, List.length_map] at this; exact this
    have hdx : d = .int ((ls.reverse[j]'hj : Nat) : Int) := by
      rw [dints, List.getElem?_map, List.getElem?_eq_getElem hj] at hd
      exact (Option.some.inj hd).symm
    subst hdx
    rw [List.drop_eq_getElem_cons hj] at ok1 eq1
    generalize ls.reverse[j]'hj = x at *
    obtain ⟨⟨hx1, hx2, hx3⟩, hr, ⟨hp1, hp2⟩, hlen, ok2⟩ := ok1
    have V2 := st.vars O1.vc N (by with_unfolding_all rfl) (Dv _)
    have O2 := st.own O1 N (by with_unfolding_all rfl) (by with_unfolding_all rfl)
    have hX : ∀ pos, Ex prog w A _ h₀ L m₂ (n₂ ++ I') (.Name (Str.ofString "x") pos) (.int (x : Int)) := fun pos => ex_name (pos := pos) V2.v (.head _) rfl
    have hps : (ps.map fun l => Dat.list (dstrs l))[((x : Nat) : Int).toNat]? = some (.list (dstrs (ps.getD x []))) := by
      rw [Int.toNat_natCast, List.getElem?_map, List.getElem?_eq_getElem hx1]
      simp [List.getD_eq_getElem?_getD, List.getElem?_eq_getElem hx1]
    have hns : (dstrs ns)[((x : Nat) : Int).toNat]? = some (.str (ns.getD x dot)) := by
      rw [Int.toNat_natCast, dstrs, List.getElem?_map, List.getElem?_eq_getElem hx2]
      simp [List.getD_eq_getElem?_getD, List.getElem?_eq_getElem hx2]
    have hlast : (dstrs (pre ++ [t]))[((-1 : Int) + (dstrs (pre ++ [t])).length).toNat]? = some (.str t) := by
      rw [dstrs, List.length_map, List.length_append, List.length_singleton, List.getElem?_map]
      have : ((-1 : Int) + ((pre.length + 1 : Nat) : Int)).toNat = pre.length := by omega
      rw [this]
      simp
    have hz2 : (palStep ns ps t x).length = (repl t (ps.getD x [])).length + dot.length + (ns.getD x dot).length := by
      unfold palStep; rw [str_len_app, str_len_app]
    have hpl : pre.length ≤ 1000 := by
      have := congrArg List.length eq1
      rw [List.length_append, palRun_len, palRun_len, List.length_reverse] at this
      omega
    refine blk_append (d := .str (palStep ns ps t x)) O2 (ex_add_str (ex_add_str (ex_call (S.less (by decide)) (own_replace w rfl rfl rfl) (fn_replace t (ps.getD x []) hr hp1 hp2)
      (args_cons' (ex_item_neg (ex_name V2.v (.tail _ (.head _)) rfl) (ex_neg_int (ex_int _ _)) (by decide) (by rw [dstrs, List.length_map, List.length_append]; simp; omega) hlast (by decide))
        (by
          rw [← List.append_nil (dstrs (ps.getD x []))]
          exact args_star (ex_item (k := 0) (ex_name V2.v (.tail _ (.tail _ (.tail _ (.head _)))) rfl) (hX _) (by omega) hps (by omega)) args_nil' (by rw [dstrs, List.length_map, sizeLine_eq]; omega)))) (ex_str _ _) (by omega)) (ex_item (k := 0) (ex_name V2.v (.tail _ (.tail _ (.head _))) rfl) (hX _) (by omega) hns (by omega)) (by rw [str_len_app]; omega)) rfl (by rw [dstrs, List.length_map, List.length_append, sizeLine_eq]; simp; omega) fun n' O3 => ?_
    refine blk_nil ⟨pre ++ [t], palStep ns ps t x, ?_, ok2, ?_⟩
    · have e : dstrs (pre ++ [t]) ++ [Dat.str (palStep ns ps t x)] = dstrs ((pre ++ [t]) ++ [palStep ns ps t x]) := by simp [dstrs]
      rw [← e]; exact O3
    · rw [List.append_assoc]; exact eq1
  · have hd : ls.reverse.drop (dints ls.reverse).length = [] := by rw [dints, List.length_map]; exact List.drop_length
    rw [hd] at eq1
    rw [← eq1]
    exact blk_return (ex_name O1.assoc.vc.v (.head _) rfl)
end Mine
end
section
/-! part FwQ -/
open PySem PySem.W PyProof.Rows PySem.Spec PySem.Calls PyProof.V
set_option maxRecDepth 100000
namespace Mine
section
variable {prog : Program} {w : World} {K : Frag} {p : Program} {loose : List PySem.Str} {mean : ExcName → Option Value} {mg mb : Mp} {A : Around} {env : Env} {h₀ : Heap} {L C D : Addr} {m m' : Mp} {I I₀ J P n n' nw : Led} {ρ ρ' ρc ρf : List (PySem.Str × Dat)} {out items ds ds2 : List Dat} {s₀ s : Shared} {e e1 e2 elt iter iter2 : PySem.Expr} {d d' r : Dat} {scope : Scope} {cl : List (PySem.Str × Addr)} {pos np ap : Pos} {k : Nat} {a b : Int} {pl : Sem Bool} {x y : PySem.Str} {v : Value}

theorem Ex.cast (h : Ex prog w A env h₀ L m I e d) (q : d = d') : Ex prog w A env h₀ L m I e d' := q ▸ h
theorem Tr.cast {t t' : Bool} (h : Tr prog w A env h₀ L m I e t) (q : t = t') : Tr prog w A env h₀ L m I e t' := q ▸ h
abbrev rng (n : Nat) : List Dat := (List.range n).map fun i : Nat => Dat.int (i : Int)
theorem it_rangeN {n : Nat} {z : Int} (S : Site K p loose mean mg mb A h₀ L k) (hns : nsIn K mainGlobals "range" = some none) (hg : env.globals = mainGlobals) (hb : env.builtins = builtinsNs) (hk : env.scope.kind = .function) (hx : env.kindOf "range" = some .globalImplicit)
    (h : Ex prog w A env h₀ L m I e (.int z)) (hz : z = (n : Int)) (hn : n ≤ 2 ^ 24) (he : starEach [e] env = (false, eval e env) :: starEach [] env := by rfl)
    (hc : eval (.Call (.Name "range" np) [e] [] pos) env = (do callWith pos (← eval (.Name "range" np) env) [] (backTo pos (starEach [e] env)) (backToKw pos (keywordEach [] env))) := by rfl) :
    It prog w A env h₀ L m I (.Call (.Name "range" np) [e] [] pos) (rng n) := by
  subst hz
  have := it_range (np := np) (pos := pos) S hns hg hb hk hx h (by omega) (by omega) he hc
  rw [Int.toNat_natCast] at this
  exact this
theorem it2_rangeN {n : Nat} {z : Int} (S : Site K p loose mean mg mb A h₀ L k) (hns : nsIn K mainGlobals "range" = some none) (hg : env.globals = mainGlobals) (hb : env.builtins = builtinsNs) (hk : env.scope.kind = .function) (hx : env.kindOf "range" = some .globalImplicit)
    (h : Ex prog w A env h₀ L m I e (.int z)) (hz : z = (n : Int)) (hn : n ≤ 2 ^ 24) (he : starEach [e] env = (false, eval e env) :: starEach [] env := by rfl)
    (hc : eval (.Call (.Name "range" np) [e] [] pos) env = (do callWith pos (← eval (.Name "range" np) env) [] (backTo pos (starEach [e] env)) (backToKw pos (keywordEach [] env))) := by rfl) :
    It2 prog w A env h₀ L m I P (.Call (.Name "range" np) [e] [] pos) (rng n) := by
  subst hz
  have := it2_range (np := np) (pos := pos) (P := P) S hns hg hb hk hx h (by omega) (by omega) he hc
  rw [Int.toNat_natCast] at this
  exact this

/-- range(1, n + 1) -/
theorem it_range1N {n : Nat} {z : Int} (S : Site K p loose mean mg mb A h₀ L k) (hns : nsIn K mainGlobals "range" = some none) (hg : env.globals = mainGlobals) (hb : env.builtins = builtinsNs) (hk : env.scope.kind = .function) (hx : env.kindOf "range" = some .globalImplicit)
    (h1 : Ex prog w A env h₀ L m I e1 (.int 1)) (h : Ex prog w A env h₀ L m I e (.int z)) (hz : z = (n : Int) + 1) (hn : n ≤ 2 ^ 20) (he : starEach [e1, e] env = (false, eval e1 env) :: starEach [e] env := by rfl) (he2 : starEach [e] env = (false, eval e env) :: starEach [] env := by rfl)
    (hpl : (backTo pos (starEach [e] env)).any (·.1) = false := by rfl)
    (hc : eval (.Call (.Name "range" np) [e1, e] [] pos) env = (do callWith pos (← eval (.Name "range" np) env) [] (backTo pos (starEach [e1, e] env)) (backToKw pos (keywordEach [] env))) := by rfl) :
    It prog w A env h₀ L m I (.Call (.Name "range" np) [e1, e] [] pos) ((List.range n).map fun i : Nat => Dat.int ((i + 1 : Nat) : Int)) := by
  subst hz
  intro J s Q E hs F N kk
  refine Call_ (name_builtin S F hns boot_range (by decide) ?_ hg hb hk hx (by decide)) hc
  refine PySem.Pv.callWith_type1 (spliced_more (Ex.int h1 hs F N fun t h' tk F' N' => spliced_more (Ex.int h hs F' N' fun t2 h2 tk2 F2 N2 => spliced_none ?_) he2) he) he hpl
  refine range2_rows F2 N2 fun h3 tk3 t₁ u₁ v₁ hr F3 N3 up => ?_
  have hsz : Builtin.Range.rangeSize 1 ((n : Int) + 1) 1 = ((n : Nat) : Int) := by unfold Builtin.Range.rangeSize; simp; omega
  refine wpAny_pyIter_range hr (small_one (by decide) (by decide) (by omega) (by omega)) ?_
  have up2 : ∀ b o, h3.get? b = some o → (h3.push { cls := .type "range_iterator", data := .fields #[rawInt 1, rawInt (Builtin.Range.rangeSize 1 ((n : Int) + 1) 1), rawInt 1] }).get? b = some o := fun b o e => Heap.get?_push_of_some _ e
  have hlen : n = ((List.range n).map fun i : Nat => Dat.int ((i + 1 : Nat) : Int)).length := by simp
  refine kk h3.objs.size [] _ _ (F3.keeps up2) (N3.grown up2) Off.nil (by rw [Heap.size_push]; exact Nat.lt_succ_self _) ⟨⟨[h3.objs.size], fun i v => ∃ t, v = .int (1 + (i : Int)) t, _, hlen ▸ LCg.range_walks (I := h3.objs.size) S.hd 1 n, ?_, fun b hb => .inl (List.mem_singleton.mp hb), fun i v hi hv => ?_, fun i h st => ⟨_, st, .inr rfl⟩⟩, Nat.ne_of_lt F3.ns.lt, next_is_new F3, fun p hp => Nat.ne_of_lt (Heap.lt_size (N3 p hp).1)⟩
  · show IsRangeIter _ _ _ _ _
    rw [hsz]; simpa using Heap.get?_push_size _ rfl
  · obtain ⟨t, rfl⟩ := hv
    have hi' : i < n := by simpa using hi
    refine ⟨.int ((i + 1 : Nat) : Int), by simp [hi'], ?_⟩
    have e : (1 : Int) + (i : Int) = ((i + 1 : Nat) : Int) := by omega
    rw [e]; exact .int _ _

theorem foldl_len (sep : PySem.Str) (B : Nat) : ∀ (l : List PySem.Str) (z : Nat), (∀ x ∈ l, x.length ≤ B) → l.foldl (fun a x => a + x.length + sep.length) z ≤ z + l.length * (B + sep.length)
  | [], z, _ => by simp
  | x :: r, z, h => by
    rw [List.foldl_cons]
    have h1 := foldl_len sep B r (z + x.length + sep.length) fun y hy => h y (List.mem_cons.mpr (.inr hy))
    have h2 := h x List.mem_cons_self
    rw [List.length_cons, Nat.add_mul]
    omega
theorem joinOk_of {sep : PySem.Str} {l : List PySem.Str} (B : Nat) (h : ∀ x ∈ l, x.length ≤ B) (hz : l.length * (B + sep.length) ≤ 16777216) : JoinOk sep l = true := by
  unfold JoinOk Builtin.Str.tooLong
  rw [List.foldl_toArray]
  have := foldl_len sep B l 0 h
  rw [sizeLine_eq]
  simp
  omega
theorem join_len {sep : PySem.Str} {l : List PySem.Str} (B : Nat) (h : ∀ x ∈ l, x.length ≤ B) : (Txt.join sep l).length ≤ l.length * (B + sep.length) := by
  have h1 := StrLaws.join_length_le sep l
  have h2 : (l.map (·.length)).sum ≤ l.length * B := by
    clear h1
    induction l with
    | nil => simp
    | cons a r ih =>
      have := h a List.mem_cons_self
      have := ih fun y hy => h y (List.mem_cons.mpr (.inr hy))
      rw [List.map_cons, List.sum_cons, List.length_cons, Nat.add_mul]
      omega
  rw [Nat.mul_add]
  have e : Txt.join sep l = Str.join sep l := StrLaws.glued_eq_join sep l
  rw [e]
  omega
end
end Mine
end
section
/-! part FwR -/
open PySem PySem.W PyProof.Rows PySem.Spec PySem.Calls PyProof.V
set_option maxRecDepth 100000
namespace Mine
section
variable {prog : Program} {w : World} {A : Around} {env : Env} {h₀ : Heap} {L : Addr} {m : Mp} {I : Led} {ρ ρf : List (PySem.Str × Dat)} {items : List Dat} {elt iter : PySem.Expr} {scope : Scope} {cl : List (PySem.Str × Addr)} {pos px fpos : Pos} {x : PySem.Str} {f : Dat → Dat} {t : Dat → Bool} {c : PySem.Expr}
theorem comp_map (ρf : List (PySem.Str × Dat)) (f : Dat → Dat) (V : Vars env L m I ρ) (hit : It prog w A env h₀ L m I iter items) (hclos : closureFor scope env = pure cl) (hρ : ∀ q ∈ ρf, q ∈ ρ) (hin : InComp scope cl env ρf)
    (helt : ∀ d ∈ items, ∀ C K, Vars (compEnvC scope cl C env) L m K ((x, d) :: ρf) → Ex prog w A (compEnvC scope cl C env) h₀ L m K elt (f d)) (hz : items.length ≤ sizeLine)
    (hx : ∀ C, (compEnvC scope cl C env).kindOf x = some .local := by intro _; rfl) (hsk : scope.kind = .function := by rfl) (hcell : ∀ y ∈ scope.names, y.2 ≠ .cell := by decide)
    (hnames : ∀ x ∈ scope.names, x.2 = .local → scope.names.lookup x.1 = some .local := by decide) (hfold : ∀ x, foldedSetIterable iter env x = pure x := by intro _; rfl) :
    IsComp prog w A env h₀ L m I (.ListComp elt [⟨.Name x px, iter, [], 0⟩] scope pos) scope fpos (eval iter env) (items.map f) := by
  have h := comp1_is (elt := elt) (pos := pos) (fpos := fpos) (target := .Name x px) (ifs := []) (f := f) (t := fun _ => true) (bs := fun d => [(x, d)]) hit hclos hcell hsk hnames hfold (vars_comp V hρ hin) (fun d hd => takes_name hx hsk (by rfl)) (fun d hd C q hq => by rw [List.mem_singleton.mp hq]; exact hx C) (fun d hd => .inl ⟨rfl, rfl⟩) (fun d hd _ C K _ VV => helt d hd C K VV) hz
  rw [List.filter_eq_self.mpr (fun _ _ => rfl)] at h
  exact h
theorem comp_if (ρf : List (PySem.Str × Dat)) (f : Dat → Dat) (t : Dat → Bool) (V : Vars env L m I ρ) (hit : It prog w A env h₀ L m I iter items) (hclos : closureFor scope env = pure cl) (hρ : ∀ q ∈ ρf, q ∈ ρ) (hin : InComp scope cl env ρf)
    (htest : ∀ d ∈ items, ∀ C K, Vars (compEnvC scope cl C env) L m K ((x, d) :: ρf) → Tr prog w A (compEnvC scope cl C env) h₀ L m K c (t d))
    (helt : ∀ d ∈ items, t d = true → ∀ C K, Vars (compEnvC scope cl C env) L m K ((x, d) :: ρf) → Ex prog w A (compEnvC scope cl C env) h₀ L m K elt (f d)) (hz : items.length ≤ sizeLine)
    (hx : ∀ C, (compEnvC scope cl C env).kindOf x = some .local := by intro _; rfl) (hsk : scope.kind = .function := by rfl) (hcell : ∀ y ∈ scope.names, y.2 ≠ .cell := by decide)
    (hnames : ∀ x ∈ scope.names, x.2 = .local → scope.names.lookup x.1 = some .local := by decide) (hfold : ∀ x, foldedSetIterable iter env x = pure x := by intro _; rfl) :
    IsComp prog w A env h₀ L m I (.ListComp elt [⟨.Name x px, iter, [c], 0⟩] scope pos) scope fpos (eval iter env) ((items.filter t).map f) :=
  comp1_is (elt := elt) (pos := pos) (fpos := fpos) (target := .Name x px) (ifs := [c]) (f := f) (t := t) (bs := fun d => [(x, d)]) hit hclos hcell hsk hnames hfold (vars_comp V hρ hin) (fun d hd => takes_name hx hsk (by rfl)) (fun d hd C q hq => by rw [List.mem_singleton.mp hq]; exact hx C) (fun d hd => .inr ⟨_, rfl, fun C K VV => htest d hd C K VV⟩) (fun d hd ht C K _ VV => helt d hd ht C K VV) hz
theorem IsComp.cast {e : PySem.Expr} {first : Sem Value} {o o' : List Dat} (h : IsComp prog w A env h₀ L m I e scope fpos first o) (q : o = o') : IsComp prog w A env h₀ L m I e scope fpos first o' := q ▸ h
end
end Mine
end
section
/-! part Fn6 -/
open PySem PySem.W PyProof.Rows PySem.Spec PySem.Calls PyProof.V
set_option maxRecDepth 100000
set_option maxHeartbeats 4000000
namespace Mine
variable {w : World} {mean : ExcName → Option Value} {mg mb : Mp}

abbrev loc₀ : PySem.Str := Str.ofString "local"
abbrev nil₀ : PySem.Str := Str.ofString ""
abbrev Loc₀ : PySem.Str := Str.ofString ".Local"
def hostOf (row : List PySem.Str) : PySem.Str := Txt.join dot (row ++ [loc₀])
def rung (row : List PySem.Str) (k : Nat) : PySem.Str := Txt.join dot ([nil₀] ++ row.drop k ++ [loc₀])
def tur (row : List PySem.Str) (k : Nat) : PySem.Str := Txt.join dot ([nil₀] ++ (row.drop k).reverse)
def climb : PySem.Str → Nat → List PySem.Str
  | t, 0 => [t]
  | t, n + 1 => t :: climb (reachF (tail1 t)) n
theorem climb_len : ∀ (n : Nat) (t : PySem.Str), (climb t n).length = n + 1
  | 0, _ => rfl
  | n + 1, t => by unfold climb; rw [List.length_cons, climb_len n]
def rungsAll (row : List PySem.Str) : List PySem.Str := hostOf row :: climb (reachF (hostOf row)) row.length
def expect (row : List PySem.Str) : List PySem.Str := [hostOf row] ++ ((List.range row.length).map fun i => rung row (i + 1)) ++ [loc₀]
def turs (row : List PySem.Str) : List PySem.Str := (List.range (row.length + 1)).map (tur row)
def great (row : List PySem.Str) : PySem.Str := Txt.upper (hostOf row)
def said (row : List PySem.Str) : List Bool := udm (great row) (tail1 (tur row 0) ++ Loc₀) :: ((turs row).drop 1).map fun t => udm (great row) (t ++ Loc₀)
def found (row : List PySem.Str) : List Bool := ((turs row).take row.length).map fun t => dm (great row) t
def most (row : List PySem.Str) (mx : Int) : Int := if (row.length : Int) - 1 < mx then (row.length : Int) - 1 else mx
def want1 (row : List PySem.Str) (mi : List Int) : List Bool := (List.range (row.length + 1)).map fun k : Nat => decide ((row.length : Int) - (k : Int) ∈ mi)
def want2 (row : List PySem.Str) (M : Int) : List Bool := (List.range row.length).map fun k : Nat => decide ((row.length : Int) - (k : Int) ≤ M)

theorem own_reach (w : World) {env : Env} (hg : env.globals = mainGlobals) (hk : env.scope.kind = .function) (hx : env.kindOf (Str.ofString "reach") = some .globalImplicit) : Own (KK w) env (Str.ofString "reach") 78 :=
  ⟨by with_unfolding_all rfl, by with_unfolding_all rfl, hg, hk, hx, by decide⟩
theorem own_udm (w : World) {env : Env} (hg : env.globals = mainGlobals) (hk : env.scope.kind = .function) (hx : env.kindOf (Str.ofString "user_domain_match") = some .globalImplicit) : Own (KK w) env (Str.ofString "user_domain_match") 71 :=
  ⟨by with_unfolding_all rfl, by with_unfolding_all rfl, hg, hk, hx, by decide⟩
theorem own_dm (w : World) {env : Env} (hg : env.globals = mainGlobals) (hk : env.scope.kind = .function) (hx : env.kindOf (Str.ofString "domain_match") = some .globalImplicit) : Own (KK w) env (Str.ofString "domain_match") 57 :=
  ⟨by with_unfolding_all rfl, by with_unfolding_all rfl, hg, hk, hx, by decide⟩

structure RowOk (row : List PySem.Str) (mi : List Int) (mx : Int) (j : Nat) : Prop where
  size : row.length ≤ 200
  pos : 1 ≤ row.length
  short : ∀ x ∈ row, x.length ≤ 10
  mx1 : mx ∈ mi
  mx2 : ∀ z ∈ mi, z ≤ mx
  rungs : rungsAll row = expect row
  sok : ∀ x ∈ expect row, PyData.strOk x = true
  okg : Ok (great row)
  okt : ∀ t ∈ turs row, Ok t ∧ Ok (t ++ Loc₀)
  ok0 : Ok (tail1 (tur row 0) ++ Loc₀)
  all : said row ++ found row = want1 row mi ++ want2 row (most row mx)
  hj : j < (said row).length
  hit : (said row)[j] = true
  no : ∀ i (hi : i < (said row).length), i < j → (said row)[i] = false

def unI : Dat → Int
  | .int i => i
  | _ => 0
theorem mem_rng {d : Dat} {n : Nat} (h : d ∈ rng n) : ∃ i : Nat, i < n ∧ d = .int (i : Int) := by
  obtain ⟨i, a, b⟩ := List.mem_map.mp h
  exact ⟨i, List.mem_range.mp a, b.symm⟩
theorem rng_sc (n : Nat) : (rng n).all sc = true := dints_sc _
theorem lit_len : dot.length = 1 ∧ nil₀.length = 0 ∧ loc₀.length = 5 ∧ Loc₀.length = 6 := by decide
theorem drop_short {row : List PySem.Str} {B : Nat} (h : ∀ x ∈ row, x.length ≤ B) (k : Nat) : ∀ x ∈ row.drop k, x.length ≤ B := fun x hx => h x (List.mem_of_mem_drop hx)

theorem row_facts {row : List PySem.Str} (hz : row.length ≤ 200) (h : ∀ x ∈ row, x.length ≤ 10) :
    (JoinOk dot (row ++ [loc₀]) = true ∧ (hostOf row).length ≤ 10000) ∧ (∀ k, JoinOk dot ([nil₀] ++ row.drop k ++ [loc₀]) = true ∧ (rung row k).length ≤ 10000) ∧ (∀ k, JoinOk dot ([nil₀] ++ (row.drop k).reverse) = true ∧ (tur row k).length ≤ 10000) := by
  obtain ⟨l1, l2, l3, l4⟩ := lit_len
  have a1 : ∀ x ∈ row ++ [loc₀], x.length ≤ 10 := fun x hx => by
    rcases List.mem_append.mp hx with hx | hx
    · exact h x hx
    · rw [List.mem_singleton.mp hx, l3]; decide
  have a2 : ∀ k, ∀ x ∈ [nil₀] ++ row.drop k ++ [loc₀], x.length ≤ 10 := fun k x hx => by
    rcases List.mem_append.mp hx with hx | hx
    · rcases List.mem_append.mp hx with hx | hx
      · rw [List.mem_singleton.mp hx, l2]; decide
      · exact drop_short h k x hx
    · rw [List.mem_singleton.mp hx, l3]; decide
  have a3 : ∀ k, ∀ x ∈ [nil₀] ++ (row.drop k).reverse, x.length ≤ 10 := fun k x hx => by
    rcases List.mem_append.mp hx with hx | hx
    · rw [List.mem_singleton.mp hx, l2]; decide
    · exact drop_short h k x (List.mem_reverse.mp hx)
  have b1 : (row ++ [loc₀]).length ≤ 201 := by simp; omega
  have b2 : ∀ k, ([nil₀] ++ row.drop k ++ [loc₀]).length ≤ 202 := fun k => by simp; omega
  have b3 : ∀ k, ([nil₀] ++ (row.drop k).reverse).length ≤ 202 := fun k => by simp; omega
  have m : ∀ z, z ≤ 202 → z * (10 + dot.length) ≤ 10000 := fun z hz => by rw [l1]; omega
  exact ⟨⟨joinOk_of 10 a1 (Nat.le_trans (m _ (by omega)) (by decide)), Nat.le_trans (join_len 10 a1) (m _ (by omega))⟩,
    fun k => ⟨joinOk_of 10 (a2 k) (Nat.le_trans (m _ (b2 k)) (by decide)), Nat.le_trans (join_len 10 (a2 k)) (m _ (b2 k))⟩,
    fun k => ⟨joinOk_of 10 (a3 k) (Nat.le_trans (m _ (b3 k)) (by decide)), Nat.le_trans (join_len 10 (a3 k)) (m _ (b3 k))⟩⟩

theorem expect_short {row : List PySem.Str} (hz : row.length ≤ 200) (h : ∀ x ∈ row, x.length ≤ 10) : ∀ x ∈ expect row, x.length ≤ 10000 := fun x hx => by
  obtain ⟨f1, f2, f3⟩ := row_facts hz h
  rcases List.mem_append.mp hx with hx | hx
  · rcases List.mem_append.mp hx with hx | hx
    · rw [List.mem_singleton.mp hx]; exact f1.2
    · obtain ⟨k, _, rfl⟩ := List.mem_map.mp hx; exact (f2 _).2
  · rw [List.mem_singleton.mp hx, lit_len.2.2.1]; decide

theorem mem1 {α : Type} {a : α} {l : List α} (h : a ∈ l) : ∀ q ∈ [a], q ∈ l := fun q hq => by rw [List.mem_singleton.mp hq]; exact h
theorem mem2 {α : Type} {a b : α} {l : List α} (h : a ∈ l) (h2 : b ∈ l) : ∀ q ∈ [a, b], q ∈ l := fun q hq => by
  rcases List.mem_cons.mp hq with rfl | hq
  · exact h
  · exact mem1 h2 q hq
theorem mem3 {α : Type} {a b c : α} {l : List α} (h : a ∈ l) (h2 : b ∈ l) (h3 : c ∈ l) : ∀ q ∈ [a, b, c], q ∈ l := fun q hq => by
  rcases List.mem_cons.mp hq with rfl | hq
  · exact h
  · exact mem2 h2 h3 q hq
theorem last_at {pre : List PySem.Str} {t : PySem.Str} : (dstrs (pre ++ [t]))[((-1 : Int) + (dstrs (pre ++ [t])).length).toNat]? = some (.str t) := by
  rw [dstrs, List.length_map, List.length_append, List.length_singleton, List.getElem?_map]
  have : ((-1 : Int) + ((pre.length + 1 : Nat) : Int)).toNat = pre.length := by omega
  rw [this]
  simp
theorem expect_eq (row : List PySem.Str) : (dstrs [hostOf row] ++ ((List.range row.length).map fun i : Nat => Dat.int ((i + 1 : Nat) : Int)).map fun d => Dat.str (rung row (unI d).toNat)) ++ dstrs [loc₀] = dstrs (expect row) := by
  unfold expect dstrs
  simp [unI]
theorem drop_eq (row : List PySem.Str) (k : Nat) : (dstrs row).drop ((k : Int)).toNat = dstrs (row.drop k) := by
  rw [Int.toNat_natCast, dstrs, dstrs, List.map_drop]
theorem turs_eq (row : List PySem.Str) : (rng (row.length + 1)).map (fun d => Dat.str (tur row (unI d).toNat)) = dstrs (turs row) := by
  unfold turs dstrs
  simp [unI]
theorem turs_at0 (row : List PySem.Str) : (dstrs (turs row))[(0 : Int).toNat]? = some (.str (tur row 0)) := by
  unfold turs dstrs
  simp
theorem unS_map (l : List PySem.Str) (g : PySem.Str → Bool) : (dstrs l).map (fun d => Dat.bool (g (unS d))) = dbools (l.map g) := by
  unfold dstrs dbools
  simp [unS]
theorem rng_map (n : Nat) (g : Nat → Bool) : (rng n).map (fun d => Dat.bool (g (unI d).toNat)) = dbools ((List.range n).map g) := by
  unfold dbools
  simp [unI]

theorem fn_closed (row : List PySem.Str) (mi : List Int) (mx : Int) (j : Nat) (R : RowOk row mi mx j) :
    FnP w mean mg mb 102 3 [.list (dstrs row), .list (mi.map Dat.int)] (.list (dstrs (row ++ (row.take j).reverse))) := by
  refine fn_enterC (k := 2) [Str.ofString "row", Str.ofString "mirrors"] (ho := by with_unfolding_all rfl) (by with_unfolding_all rfl) (fun vs h => by match vs, h with | [a, b], _ => with_unfolding_all rfl) (by with_unfolding_all rfl) (by decide) rfl (by decide) ?_
  intro A h₀ L I n m S V
  obtain ⟨f1, f2, f3⟩ := row_facts R.size R.short
  obtain ⟨l1, l2, l3, l4⟩ := lit_len
  have hsz := R.size
  have hpos := R.pos
  have hrl : (dstrs row).length = row.length := List.length_map ..
  -- size = len(row)
  refine blk_putv V ((ex_len S ⟨by with_unfolding_all rfl, rfl, rfl, rfl, rfl⟩ (ex_name V.v (.head _) rfl) (by rw [hrl]; omega)).cast (d' := .int (row.length : Int)) (by rw [hrl])) (fun m n V => ?_) (.inr ⟨rfl, rfl⟩)
  -- host
  refine blk_putv V (ex_join (l := row ++ [loc₀]) (ex_str _ _) ((ex_add_list (ex_name V.v (.tail _ (.head _)) rfl) (ex_list (ds := dstrs [loc₀]) (args_cons' (ex_str _ _) args_nil') (by decide)) (by rw [sizeLine_eq]; simp; omega)).cast (by simp [dstrs])) f1.1) (fun m n V => ?_) (.inl ⟨rfl, rfl⟩)
  -- rungs
  refine blk_new (ds := dstrs [hostOf row, reachF (hostOf row)]) V (args_cons' (ex_name V.v (.head _) rfl) (args_cons' (ex_call S (own_reach w rfl rfl rfl) (fn_reach _ (by have := f1.2; unfold hostOf at *; omega)) (args_cons' (ex_name V.v (.head _) rfl) args_nil')) args_nil')) (by rw [sizeLine_eq]; simp) (fun m n O => ?_) rfl (.inl ⟨rfl, rfl⟩)
  have hexp := expect_short R.size R.short
  -- for k in range(size)
  refine blk_for (y := Str.ofString "k") (items := rng row.length) (it2_rangeN S (by with_unfolding_all rfl) rfl rfl rfl rfl (ex_name O.vc.v (.tail _ (.tail _ (.head _))) rfl) rfl (by omega))
    (fun j m n I' => ∃ pre t, OwnL _ L m n I' (Str.ofString "rungs") (dstrs (pre ++ [t])) [(Str.ofString "host", .str (hostOf row)), (Str.ofString "size", .int (row.length : Int)), (Str.ofString "row", .list (dstrs row)), (Str.ofString "mirrors", .list (mi.map Dat.int))] ∧ pre ++ climb t (row.length - j) = rungsAll row)
    (fun nw o => ⟨[hostOf row], reachF (hostOf row), O.wide o, rfl⟩) (fun j m n I' ⟨_, _, O, _⟩ => O.vc.c) (.inl ⟨rfl, rfl⟩) rfl (fun I' j d hd hI m₁ n₁ n₂ m₂ v hp ⟨pre, t, O1, eq1⟩ st N Dv => ?_) (fun nw m' n' ⟨pre, t, O1, eq1⟩ => ?_)
  · have hj : j < row.length := by
      have := (List.getElem?_eq_some_iff.mp hd).1
      rw [List.length_map, List.length_range] at this; exact this
    have V2 := st.vars O1.vc N (by with_unfolding_all rfl) (Dv _)
    have O2 := st.own O1 N (by with_unfolding_all rfl) (by with_unfolding_all rfl)
    have ec : row.length - j = (row.length - (j + 1)) + 1 := by omega
    rw [ec] at eq1
    have ht : t.length ≤ 10000 := hexp t (by rw [← R.rungs, ← eq1]; exact List.mem_append.mpr (.inr (.head _)))
    have ht2 := tail1_len t
    have hpl : pre.length ≤ 1000 := by
      have := congrArg List.length eq1
      rw [List.length_append, climb_len] at this
      unfold rungsAll at this
      rw [List.length_cons, climb_len] at this
      omega
    refine blk_append (d := .str (reachF (tail1 t))) O2 (ex_call S (own_reach w rfl rfl rfl) (fn_reach _ (by omega)) (args_cons' (ex_tail_str (ex_item_neg (ex_name V2.v (.tail _ (.head _)) rfl) (ex_neg_int (ex_int _ _)) (by decide) (by rw [dstrs, List.length_map, List.length_append]; simp; omega) last_at (by decide)) (ex_int _ _) (by rw [sizeLine_eq]; omega)) args_nil')) rfl (by rw [dstrs, List.length_map, List.length_append, sizeLine_eq]; simp; omega) fun n' O3 => ?_
    refine blk_nil ⟨pre ++ [t], reachF (tail1 t), ?_, ?_⟩
    · have e : dstrs (pre ++ [t]) ++ [Dat.str (reachF (tail1 t))] = dstrs ((pre ++ [t]) ++ [reachF (tail1 t)]) := by simp [dstrs]
      rw [← e]; exact O3
    · rw [List.append_assoc]; exact eq1
  have hlen0 : row.length - (rng row.length).length = 0 := by rw [List.length_map, List.length_range]; omega
  rw [hlen0] at eq1
  have eqx : pre ++ [t] = expect row := eq1.trans R.rungs
  rw [eqx] at O1
  have V := O1.assoc.vc
  clear O1 eq1 eqx
  -- if rungs != ..
  have hxl : (expect row).length ≤ 1000 := by unfold expect; simp; omega
  refine blk_if_ret (b := false) ((tr_ne_list (t := true) (ex_name V.v (.head _) rfl) ((ex_add_list (ex_add_list (ex_list (ds := dstrs [hostOf row]) (args_cons' (ex_name V.v (.tail _ (.head _)) rfl) args_nil') (by rw [sizeLine_eq]; simp))
      (ex_comp (by rfl) (comp_map (cl := [(Str.ofString "row", L + 1)]) [(Str.ofString "row", .list (dstrs row))] (fun d => .str (rung row (unI d).toNat)) V.v (it_range1N (n := row.length) S (by with_unfolding_all rfl) rfl rfl rfl rfl (ex_int _ _) (ex_add_int (ex_name V.v (.tail _ (.tail _ (.head _))) rfl) (ex_int _ _)) rfl (by omega)) rfl (mem1 (.tail _ (.tail _ (.tail _ (.head _))))) ⟨⟨rfl, fun _ => rfl, rfl⟩, trivial⟩ (fun d hd C K VV => ?_) ?_)) ?_)
      (ex_list (ds := dstrs [loc₀]) (args_cons' (ex_str _ _) args_nil') (by decide)) ?_).cast (expect_eq row ▸ rfl)) (okd_strs R.sok) (okd_strs R.sok) S.units (by simp)).cast rfl) (fun hb => nomatch hb) fun _ => ?_
  · obtain ⟨i, hi, rfl⟩ := List.mem_map.mp hd
    have hK : ∀ pos, Ex prog w A _ h₀ L _ K (.Name (Str.ofString "k") pos) (.int ((i + 1 : Nat) : Int)) := fun pos => ex_name (pos := pos) VV (.head _) rfl
    exact ex_join (l := [nil₀] ++ row.drop (i + 1) ++ [loc₀]) (ex_str _ _) ((ex_add_list (ex_add_list (ex_list (ds := dstrs [nil₀]) (args_cons' (ex_str _ _) args_nil') (by decide)) ((ex_slice (ex_name VV (.tail _ (.head _)) rfl) (.some (hK _)) .none .none (by decide) (by rw [hrl, sizeLine_eq]; omega) (lpick_from _ (by omega))).cast (by rw [drop_eq])) (by rw [sizeLine_eq]; simp; omega)) (ex_list (ds := dstrs [loc₀]) (args_cons' (ex_str _ _) args_nil') (by decide)) (by rw [sizeLine_eq]; simp; omega)).cast (by simp [dstrs])) (f2 _).1
  · rw [List.length_map, List.length_range, sizeLine_eq]; omega
  · rw [sizeLine_eq]; simp; omega
  · rw [sizeLine_eq]; simp; omega
  -- great, turned
  have hgl : (Txt.upper (hostOf row)).length ≤ 16777216 := by have := R.okg.len; unfold great at this; omega
  have hgr : Txt.upper (hostOf row) = great row := rfl
  refine blk_putv V (ex_upper (ex_name V.v (.tail _ (.head _)) rfl) (fit_len hgl)) (fun m n V => ?_) (.inr ⟨rfl, rfl⟩)
  rw [hgr] at V
  have htl : (dstrs (turs row)).length ≤ 1000 := by rw [dstrs, List.length_map, turs, List.length_map, List.length_range]; omega
  refine blk_putv_comp V ((comp_map (cl := [(Str.ofString "row", L + 1)]) [(Str.ofString "row", .list (dstrs row))] (fun d => .str (tur row (unI d).toNat)) V.v (it_rangeN (n := row.length + 1) S (by with_unfolding_all rfl) rfl rfl rfl rfl (ex_add_int (ex_name V.v (.tail _ (.tail _ (.tail _ (.head _)))) rfl) (ex_int _ _)) (by omega) (by omega)) rfl (mem1 (.tail _ (.tail _ (.tail _ (.tail _ (.head _)))))) ⟨⟨rfl, fun _ => rfl, rfl⟩, trivial⟩ (fun d hd C K VV => ?_) ?_).cast (turs_eq row)) fun m n V => ?_
  · obtain ⟨i, hi, rfl⟩ := mem_rng hd
    have hK : ∀ pos, Ex prog w A _ h₀ L _ K (.Name (Str.ofString "k") pos) (.int (i : Int)) := fun pos => ex_name (pos := pos) VV (.head _) rfl
    have hdr : (dstrs (row.drop i)).length ≤ 200 := by rw [dstrs, List.length_map, List.length_drop]; omega
    exact ex_join (l := [nil₀] ++ (row.drop i).reverse) (ex_str _ _) ((ex_add_list (ex_list (ds := dstrs [nil₀]) (args_cons' (ex_str _ _) args_nil') (by decide)) (ex_slice ((ex_slice (ex_name VV (.tail _ (.head _)) rfl) (.some (hK _)) .none .none (by decide) (by rw [hrl, sizeLine_eq]; omega) (lpick_from _ (by omega))).cast (congrArg Dat.list (drop_eq row i))) .none .none (.some (ex_neg_int (ex_int _ _))) (by decide) (by rw [sizeLine_eq]; omega) (lpick_rev _)) (by rw [sizeLine_eq, List.length_reverse]; simp at hdr ⊢; omega)).cast (by simp [dstrs])) (f3 _).1
  · rw [List.length_map, List.length_range, sizeLine_eq]; omega
  -- said
  have ht0 : (tur row 0).length ≤ 10000 := (f3 0).2
  have ht1 := tail1_len (tur row 0)
  refine blk_new (ds := dbools [udm (great row) (tail1 (tur row 0) ++ Loc₀)]) V (args_cons' (ex_call S (own_udm w rfl rfl rfl) (fn_udm _ _ R.okg R.ok0) (args_cons' (ex_name V.v (.tail _ (.head _)) rfl) (args_cons' (ex_add_str (ex_tail_str (ex_item (k := 0) (ex_name V.v (.head _) rfl) (ex_int _ _) (by decide) (turs_at0 row) (by decide)) (ex_int _ _) (by rw [sizeLine_eq]; omega)) (ex_str _ _) (by show (tail1 (tur row 0)).length + Loc₀.length ≤ _; rw [sizeLine_eq, l4]; omega)) args_nil'))) args_nil') (by rw [sizeLine_eq]; simp) (fun m n O => ?_) rfl (.inl ⟨rfl, rfl⟩)
  have htu : (turs row).length = row.length + 1 := by rw [turs, List.length_map, List.length_range]
  refine blk_extend (ds2 := dbools (((turs row).drop 1).map fun t => udm (great row) (t ++ Loc₀))) O ((ex_comp (by rfl) (comp_map (cl := [(Str.ofString "great", L + 4)]) [(Str.ofString "great", .str (great row))] (fun d => .bool (udm (great row) (unS d ++ Loc₀))) O.vc.v
    (it_list (items := dstrs ((turs row).drop 1)) S.hd ((ex_slice (ex_name O.vc.v (.tail _ (.head _)) rfl) (.some (ex_int _ _)) .none .none (by decide) (by rw [sizeLine_eq]; omega) (lpick_from _ (by decide))).cast (congrArg Dat.list (drop_eq (turs row) 1)))) rfl (mem1 (.tail _ (.tail _ (.head _)))) ⟨⟨rfl, fun _ => rfl, rfl⟩, trivial⟩ (fun d hd C K VV => ?_) ?_)).cast (congrArg Dat.list (unS_map ((turs row).drop 1) fun t => udm (great row) (t ++ Loc₀)))) ?_ ?_ ?_ fun n O => ?_
  · obtain ⟨t, ht, rfl⟩ := mem_dstrs hd
    have ht' := List.mem_of_mem_drop ht
    have := (R.okt t ht').1.len
    exact ex_call S (own_udm w rfl rfl rfl) (fn_udm _ _ R.okg (R.okt t ht').2) (args_cons' (ex_name VV (.tail _ (.head _)) rfl) (args_cons' (ex_add_str (ex_name VV (.head _) rfl) (ex_str _ _) (by show t.length + Loc₀.length ≤ _; rw [sizeLine_eq, l4]; omega)) args_nil'))
  · rw [dstrs, List.length_map, List.length_drop, sizeLine_eq]; omega
  · rw [List.all_map, List.all_eq_true]; intro _ _; rfl
  · rw [dbools, List.length_map, List.length_map, List.length_drop]; omega
  · rw [dbools, dbools, List.length_map, List.length_map, List.length_map, List.length_drop, sizeLine_eq]; simp; omega
  -- found, most
  have hsaid : dbools [udm (great row) (tail1 (tur row 0) ++ Loc₀)] ++ dbools (((turs row).drop 1).map fun t => udm (great row) (t ++ Loc₀)) = dbools (said row) := by simp [dbools, said]
  rw [hsaid] at O
  have V := O.vc
  clear O
  refine blk_putv_comp V ((comp_map (cl := [(Str.ofString "great", L + 4)]) [(Str.ofString "great", .str (great row))] (fun d => .bool (dm (great row) (unS d))) V.v
    (it_list (items := dstrs ((turs row).take row.length)) S.hd ((ex_slice (ex_name V.v (.tail _ (.head _)) rfl) .none (.some (ex_name V.v (.tail _ (.tail _ (.tail _ (.tail _ (.tail _ (.head _)))))) rfl)) .none (by decide) (by rw [sizeLine_eq]; omega) (lpick_upto _ (by omega))).cast (by rw [Int.toNat_natCast, dstrs, dstrs, List.map_take]))) rfl (mem1 (.tail _ (.tail _ (.head _)))) ⟨⟨rfl, fun _ => rfl, rfl⟩, trivial⟩ (fun d hd C K VV => ?_) ?_).cast (unS_map ((turs row).take row.length) fun t => dm (great row) t)) fun m n V => ?_
  · obtain ⟨t, ht, rfl⟩ := mem_dstrs hd
    exact ex_call S (own_dm w rfl rfl rfl) (fn_dm _ _ R.okg (R.okt t (List.mem_of_mem_take ht)).1) (args_cons' (ex_name VV (.tail _ (.head _)) rfl) (args_cons' (ex_name VV (.head _) rfl) args_nil'))
  · rw [dstrs, List.length_map, List.length_take, sizeLine_eq]; omega
  refine blk_putv V (ex_min2 S ⟨by with_unfolding_all rfl, rfl, rfl, rfl, rfl⟩ (ex_max S ⟨by with_unfolding_all rfl, rfl, rfl, rfl, rfl⟩ (ex_name V.v (.tail _ (.tail _ (.tail _ (.tail _ (.tail _ (.tail _ (.tail _ (.tail _ (.head _))))))))) rfl) R.mx1 R.mx2)
    (ex_sub_int (ex_name V.v (.tail _ (.tail _ (.tail _ (.tail _ (.tail _ (.tail _ (.head _))))))) rfl) (ex_int _ _))) (fun m n V => ?_) (.inr ⟨rfl, rfl⟩)
  have hmo : (if (row.length : Int) - 1 < mx then (row.length : Int) - 1 else mx) = most row mx := rfl
  rw [hmo] at V
  have hfo : ((turs row).take row.length).map (fun t => dm (great row) t) = found row := rfl
  rw [hfo] at V
  have hsl : (said row).length = row.length + 1 := by simp [said, htu]
  have hfl : (found row).length = row.length := by simp [found, htu]
  -- the answers
  refine blk_if_ret (b := false) ((tr_ne_bools (l := said row ++ found row) (r := want1 row mi ++ want2 row (most row mx)) ((ex_add_list (ex_name V.v (.tail _ (.tail _ (.head _))) rfl) (ex_name V.v (.tail _ (.head _)) rfl) (by rw [List.length_map, List.length_map, sizeLine_eq]; omega)).cast (by simp [dbools]))
    ((ex_add_list (ex_comp (by rfl) (comp_map (cl := [(Str.ofString "size", L + 3), (Str.ofString "mirrors", L + 2)]) [(Str.ofString "size", .int (row.length : Int)), (Str.ofString "mirrors", .list (mi.map Dat.int))] (fun d => .bool (decide ((row.length : Int) - ((unI d).toNat : Int) ∈ mi))) V.v (it_rangeN (n := row.length + 1) S (by with_unfolding_all rfl) rfl rfl rfl rfl (ex_add_int (ex_name V.v (.tail _ (.tail _ (.tail _ (.tail _ (.tail _ (.tail _ (.tail _ (.head _)))))))) rfl) (ex_int _ _)) (by omega) (by omega)) rfl (mem2 (.tail _ (.tail _ (.tail _ (.tail _ (.tail _ (.tail _ (.tail _ (.head _)))))))) (.tail _ (.tail _ (.tail _ (.tail _ (.tail _ (.tail _ (.tail _ (.tail _ (.tail _ (.head _)))))))))))
        ⟨⟨rfl, fun _ => rfl, rfl⟩, ⟨rfl, fun _ => rfl, rfl⟩, trivial⟩ (fun d hd C K VV => ?_) ?_))
      (ex_comp (by rfl) (comp_map (cl := [(Str.ofString "size", L + 3), (Str.ofString "most", L + 5)]) [(Str.ofString "size", .int (row.length : Int)), (Str.ofString "most", .int (most row mx))] (fun d => .bool (decide ((row.length : Int) - ((unI d).toNat : Int) ≤ most row mx))) V.v (it_rangeN (n := row.length) S (by with_unfolding_all rfl) rfl rfl rfl rfl (ex_name V.v (.tail _ (.tail _ (.tail _ (.tail _ (.tail _ (.tail _ (.tail _ (.head _)))))))) rfl) rfl (by omega)) rfl (mem2 (.tail _ (.tail _ (.tail _ (.tail _ (.tail _ (.tail _ (.tail _ (.head _)))))))) (.head _))
        ⟨⟨rfl, fun _ => rfl, rfl⟩, ⟨rfl, fun _ => rfl, rfl⟩, trivial⟩ (fun d hd C K VV => ?_) ?_)) ?_).cast ?_) S.units).cast ?_) (fun hb => nomatch hb) fun _ => ?_
  · obtain ⟨i, hi, rfl⟩ := mem_rng hd
    exact ex_in_ints (ex_sub_int (ex_name VV (.tail _ (.head _)) rfl) (ex_name VV (.head _) rfl)) (ex_name VV (.tail _ (.tail _ (.head _))) rfl) S.units
  · rw [List.length_map, List.length_range, sizeLine_eq]; omega
  · obtain ⟨i, hi, rfl⟩ := mem_rng hd
    exact ex_le_int (ex_sub_int (ex_name VV (.tail _ (.head _)) rfl) (ex_name VV (.head _) rfl)) (ex_name VV (.tail _ (.tail _ (.head _))) rfl)
  · rw [List.length_map, List.length_range, sizeLine_eq]; omega
  · rw [List.length_map, List.length_map, List.length_map, List.length_map, List.length_range, List.length_range, sizeLine_eq]; omega
  · rw [rng_map (row.length + 1) fun k => decide ((row.length : Int) - (k : Int) ∈ mi), rng_map row.length fun k => decide ((row.length : Int) - (k : Int) ≤ most row mx)]
    simp [dbools, want1, want2]
  · rw [R.all]; simp
  -- the answer
  have hjl := R.hj
  have hr : ∀ pos, Ex prog w A _ h₀ L m (n ++ I) (.Name (Str.ofString "row") pos) (.list (dstrs row)) := fun pos => ex_name (pos := pos) V.v (.tail _ (.tail _ (.tail _ (.tail _ (.tail _ (.tail _ (.tail _ (.tail _ (.head _))))))))) rfl
  refine blk_return ((ex_add_list (hr _) (ex_slice ((ex_slice (hr _) .none (.some (ex_index_true (j := j) S (ex_name V.v (.tail _ (.tail _ (.head _))) rfl) (ex_bool _ _) R.hj R.hit R.no (by rw [sizeLine_eq]; omega))) .none (by decide) (by rw [hrl, sizeLine_eq]; omega) (lpick_upto _ (by omega))).cast (by rw [Int.toNat_natCast, dstrs, ← List.map_take])) .none .none (.some (ex_neg_int (ex_int _ _))) (by decide) (by rw [List.length_map, List.length_take, sizeLine_eq]; omega) (lpick_rev _)) ?_).cast ?_)
  · rw [List.length_reverse, List.length_map, List.length_map, List.length_take, sizeLine_eq]; omega
  · rw [dstrs, dstrs, List.map_append, List.map_reverse]
end Mine
end
section
/-! part Fn7 -/
open PySem PySem.W PyProof.Rows PySem.Spec PySem.Calls PyProof.V
set_option maxRecDepth 100000
set_option maxHeartbeats 4000000
namespace Mine
section
variable {prog : Program} {w : World} {A : Around} {env : Env} {h₀ : Heap} {L : Addr} {m : Mp} {I : Led} {e1 e2 : PySem.Expr} {pos : Pos} {x y : PySem.Str}
theorem ex_add2 (h1 : Ex prog w A env h₀ L m I e1 (.str x)) (h2 : Ex prog w A env h₀ L m I e2 (.str y)) (hx : x.length ≤ 100000) (hy : y.length ≤ 100000) : Ex prog w A env h₀ L m I (.BinOp e1 .Add e2 pos) (.str (x ++ y)) :=
  ex_add_str h1 h2 (by rw [sizeLine_eq]; omega)
end
variable {w : World} {mean : ExcName → Option Value} {mg mb : Mp}

abbrev S' (s : String) : PySem.Str := Str.ofString s
def bareOf (a b c : PySem.Str) : PySem.Str := Txt.join dot [a, b, c]
def lowOf (c : PySem.Str) : PySem.Str := S' "." ++ c
def stays1 (a b c : PySem.Str) : List PySem.Str := [bareOf a b c ++ S' ".9087", bareOf a b c ++ S' ".", b ++ lowOf c, c ++ S' ".LOCAL"]
def stays2 (a b c : PySem.Str) : List PySem.Str := stays1 a b c ++ [c ++ lowOf c ++ S' "local", c ++ S' ".local" ++ c]
def ways (a b c : PySem.Str) : List PySem.Str := stays2 a b c ++ [c ++ S' "." ++ lowOf c, c ++ S' "." ++ Txt.upper (bareOf a b c)]
def climbed (a b c : PySem.Str) : List PySem.Str := stays2 a b c ++ [S' "." ++ lowOf c, S' "." ++ Txt.upper (bareOf a b c)]

structure ThreeOk (a b c : PySem.Str) : Prop where
  la : a.length ≤ 10
  lb : b.length ≤ 10
  lc : c.length ≤ 10
  ub : (Txt.upper (bareOf a b c)).length ≤ 1000
  ul : (Txt.upper (lowOf c)).length ≤ 1000
  so : ∀ x ∈ climbed a b c, PyData.strOk x = true
  up : (ways a b c).map reachF = climbed a b c
theorem three_facts {a b c : PySem.Str} (T : ThreeOk a b c) : JoinOk dot [a, b, c] = true ∧ (bareOf a b c).length ≤ 100 ∧ (lowOf c).length ≤ 11 := by
  have h : ∀ x ∈ [a, b, c], x.length ≤ 10 := fun x hx => by
    rcases List.mem_cons.mp hx with rfl | hx
    · exact T.la
    · rcases List.mem_cons.mp hx with rfl | hx
      · exact T.lb
      · rw [List.mem_singleton.mp hx]; exact T.lc
  have hd := dot_len
  refine ⟨joinOk_of 10 h (by rw [hd]; simp), Nat.le_trans (join_len 10 h) (by rw [hd]; simp), ?_⟩
  have : (S' ".").length = 1 := by decide
  unfold lowOf; rw [str_len_app, this]; have := T.lc; omega

theorem fn_climbed (a b c : PySem.Str) (T : ThreeOk a b c) : FnP w mean mg mb 107 3 [.list (dstrs [a, b, c])] (.bool true) := by
  refine fn_enter (k := 2) [Str.ofString "row"] (ho := by with_unfolding_all rfl) (by with_unfolding_all rfl) (fun vs h => by match vs, h with | [a], _ => with_unfolding_all rfl) (by with_unfolding_all rfl) (by with_unfolding_all rfl) rfl (by decide) ?_
  intro A h₀ L I m S V
  obtain ⟨j1, lb, ll⟩ := three_facts T
  have hc := T.lc
  have hb := T.lb
  have hub := T.ub
  have hk : ∀ s : String, (S' s).length ≤ 100 → (S' s).length ≤ 100000 := fun s h => by omega
  refine blk_put V (ex_join (l := [a, b, c]) (ex_str _ _) (ex_name V (.head _) rfl) j1) fun m n V => ?_
  refine blk_put V (ex_add2 (ex_str _ _) (ex_item_neg (d := .str c) (ex_name V (.tail _ (.head _)) rfl) (ex_neg_int (ex_int _ _)) (by decide) (by simp) rfl (by decide)) (by decide) (by omega)) fun m n V => ?_
  have bdef : Txt.join dot [a, b, c] = bareOf a b c := rfl
  have ldef : S' "." ++ c = lowOf c := rfl
  rw [bdef, ldef] at V
  have hB : ∀ pos, Ex prog w A _ h₀ L m (n ++ I) (.Name (Str.ofString "bare") pos) (.str (bareOf a b c)) := fun pos => ex_name (pos := pos) V (.tail _ (.head _)) rfl
  have hL : ∀ pos, Ex prog w A _ h₀ L m (n ++ I) (.Name (Str.ofString "low") pos) (.str (lowOf c)) := fun pos => ex_name (pos := pos) V (.head _) rfl
  have hR : ∀ pos, Ex prog w A _ h₀ L m (n ++ I) (.Name (Str.ofString "row") pos) (.list (dstrs [a, b, c])) := fun pos => ex_name (pos := pos) V (.tail _ (.tail _ (.head _))) rfl
  refine blk_put (d := .list (dstrs (stays1 a b c))) V (ex_list (args_cons' (ex_add2 (hB _) (ex_str _ _) (by omega) (by decide)) (args_cons' (ex_add2 (hB _) (ex_str _ _) (by omega) (by decide)) (args_cons' (ex_add2 (ex_item_neg (d := .str b) (hR _) (ex_neg_int (ex_int _ _)) (by decide) (by simp) rfl (by decide)) (hL _) (by omega) (by omega))
    (args_cons' (ex_add2 (ex_item_neg (d := .str c) (hR _) (ex_neg_int (ex_int _ _)) (by decide) (by simp) rfl (by decide)) (ex_str _ _) (by omega) (by decide)) args_nil')))) (by rw [sizeLine_eq]; simp [stays1])) fun m n V => ?_
  have hL : ∀ pos, Ex prog w A _ h₀ L m (n ++ I) (.Name (Str.ofString "low") pos) (.str (lowOf c)) := fun pos => ex_name (pos := pos) V (.tail _ (.head _)) rfl
  have hR : ∀ pos, Ex prog w A _ h₀ L m (n ++ I) (.Name (Str.ofString "row") pos) (.list (dstrs [a, b, c])) := fun pos => ex_name (pos := pos) V (.tail _ (.tail _ (.tail _ (.head _)))) rfl
  have hC : ∀ p1 p2 p3 p4, Ex prog w A _ h₀ L m (n ++ I) (.Subscript (.Name (Str.ofString "row") p1) (.UnaryOp .USub (.Constant (.int 1) 0 p2) p3) p4) (.str c) := fun p1 p2 p3 p4 => ex_item_neg (hR _) (ex_neg_int (ex_int _ _)) (by decide) (by simp) rfl (by decide)
  have q1 : (c ++ lowOf c).length ≤ 100 := by rw [str_len_app]; omega
  have q2 : (c ++ S' ".local").length ≤ 100 := by have : (S' ".local").length = 6 := by decide
                                                  rw [str_len_app]; omega
  have q3 : (c ++ S' ".").length ≤ 100 := by have : (S' ".").length = 1 := by decide
                                             rw [str_len_app]; omega
  refine blk_put (d := .list (dstrs (stays2 a b c))) (V.sub (ρ' := [(Str.ofString "low", .str (lowOf c)), (Str.ofString "bare", .str (bareOf a b c)), (Str.ofString "row", .list (dstrs [a, b, c]))]) (fun p hp => .tail _ hp))
    ((ex_add_list (ex_name V (.head _) rfl) (ex_list (ds := dstrs [c ++ lowOf c ++ S' "local", c ++ S' ".local" ++ c]) (args_cons' (ex_add2 (ex_add2 (hC _ _ _ _) (hL _) (by omega) (by omega)) (ex_str _ _) (by omega) (by decide)) (args_cons' (ex_add2 (ex_add2 (hC _ _ _ _) (ex_str _ _) (by omega) (by decide)) (hC _ _ _ _) (by omega) (by omega)) args_nil')) (by rw [sizeLine_eq]; simp)) (by rw [sizeLine_eq]; simp [stays1])).cast (by simp [dstrs, stays2])) fun m n V => ?_
  have hB : ∀ pos, Ex prog w A _ h₀ L m (n ++ I) (.Name (Str.ofString "bare") pos) (.str (bareOf a b c)) := fun pos => ex_name (pos := pos) V (.tail _ (.tail _ (.head _))) rfl
  have hL : ∀ pos, Ex prog w A _ h₀ L m (n ++ I) (.Name (Str.ofString "low") pos) (.str (lowOf c)) := fun pos => ex_name (pos := pos) V (.tail _ (.head _)) rfl
  have hR : ∀ pos, Ex prog w A _ h₀ L m (n ++ I) (.Name (Str.ofString "row") pos) (.list (dstrs [a, b, c])) := fun pos => ex_name (pos := pos) V (.tail _ (.tail _ (.tail _ (.head _)))) rfl
  have hC : ∀ p1 p2 p3 p4, Ex prog w A _ h₀ L m (n ++ I) (.Subscript (.Name (Str.ofString "row") p1) (.UnaryOp .USub (.Constant (.int 1) 0 p2) p3) p4) (.str c) := fun p1 p2 p3 p4 => ex_item_neg (hR _) (ex_neg_int (ex_int _ _)) (by decide) (by simp) rfl (by decide)
  refine blk_put (d := .list (dstrs (ways a b c))) V
    ((ex_add_list (ex_name V (.head _) rfl) (ex_list (ds := dstrs [c ++ S' "." ++ lowOf c, c ++ S' "." ++ Txt.upper (bareOf a b c)]) (args_cons' (ex_add2 (ex_add2 (hC _ _ _ _) (ex_str _ _) (by omega) (by decide)) (hL _) (by omega) (by omega)) (args_cons' (ex_add2 (ex_add2 (hC _ _ _ _) (ex_str _ _) (by omega) (by decide)) (ex_upper (hB _) (fit_len (by omega))) (by omega) (by omega)) args_nil')) (by rw [sizeLine_eq]; simp)) (by rw [sizeLine_eq]; simp [stays2, stays1])).cast (by simp [dstrs, ways])) fun m n V => ?_
  have hB : ∀ pos, Ex prog w A _ h₀ L m (n ++ I) (.Name (Str.ofString "bare") pos) (.str (bareOf a b c)) := fun pos => ex_name (pos := pos) V (.tail _ (.tail _ (.tail _ (.head _)))) rfl
  have hL : ∀ pos, Ex prog w A _ h₀ L m (n ++ I) (.Name (Str.ofString "low") pos) (.str (lowOf c)) := fun pos => ex_name (pos := pos) V (.tail _ (.tail _ (.head _))) rfl
  have hwl : ∀ x ∈ ways a b c, x.length ≤ 2000 := fun x hx => by
    have k1 : (S' ".9087").length = 5 := by decide
    have k2 : (S' ".").length = 1 := by decide
    have k3 : (S' ".LOCAL").length = 6 := by decide
    have k4 : (S' "local").length = 5 := by decide
    have k5 : (S' ".local").length = 6 := by decide
    simp only [ways, stays2, stays1, List.cons_append, List.nil_append, List.mem_cons, List.mem_nil_iff, or_false] at hx
    rcases hx with rfl | rfl | rfl | rfl | rfl | rfl | rfl | rfl <;> simp only [str_len_app] <;> omega
  have wlen : (dstrs (ways a b c)).length = 8 := by simp [ways, stays2, stays1]
  refine blk_return (ex_eq_list (t := true) ((ex_comp (by rfl) (comp_map (cl := []) [] (fun d => .str (reachF (unS d))) V (it_list (items := dstrs (ways a b c)) S.hd (ex_name V (.head _) rfl)) rfl (fun _ h => nomatch h) trivial (fun d hd C K VV => ?_) (by rw [wlen, sizeLine_eq]; decide))).cast (d' := .list (dstrs (climbed a b c))) ?_)
    ((ex_add_list (ex_name V (.tail _ (.head _)) rfl) (ex_list (ds := dstrs [S' "." ++ lowOf c, S' "." ++ Txt.upper (bareOf a b c)]) (args_cons' (ex_add2 (ex_str _ _) (hL _) (by decide) (by omega)) (args_cons' (ex_add2 (ex_str _ _) (ex_upper (hB _) (fit_len (by omega))) (by decide) (by omega)) args_nil')) (by rw [sizeLine_eq]; simp)) (by rw [sizeLine_eq]; simp [stays2, stays1])).cast (by simp [dstrs, climbed])) (okd_strs T.so) (okd_strs T.so) S.units (by simp))
  · obtain ⟨x, hx, rfl⟩ := mem_dstrs hd
    have := hwl x hx
    exact ex_call S (own_reach w rfl rfl rfl) (fn_reach x (by omega)) (args_cons' (ex_name VV (.head _) rfl) args_nil')
  · rw [← T.up]; simp [dstrs, unS]
end Mine
end
section
/-! part Fn8 -/
open PySem PySem.W PyProof.Rows PySem.Spec PySem.Calls PyProof.V
set_option maxRecDepth 100000
set_option maxHeartbeats 4000000
namespace Mine
variable {w : World} {mean : ExcName → Option Value} {mg mb : Mp}

def pr (p : PySem.Str × PySem.Str) : Dat := .tuple [.str p.1, .str p.2]
abbrev dprs (l : List (PySem.Str × PySem.Str)) : List Dat := l.map pr
def unP : Dat → PySem.Str × PySem.Str
  | .tuple [.str a, .str b] => (a, b)
  | _ => (nil₀, nil₀)
def tf (b : Bool) : PySem.Str := if b then "True" else "False"
section
variable (a b c : PySem.Str)
def asks1 : List (PySem.Str × PySem.Str) := [(bareOf a b c, Txt.upper (bareOf a b c)), (lowOf c, Txt.upper (lowOf c)), (bareOf a b c ++ S' ".7", Txt.upper (bareOf a b c) ++ S' ".7"), (nil₀, nil₀)]
def add2 : List (PySem.Str × PySem.Str) := [(bareOf a b c ++ S' "2", lowOf c ++ S' "2"), (bareOf a b c ++ S' ".7.a", S' ".a"), (bareOf a b c ++ S' "..a", S' ".a")]
def add3 : List (PySem.Str × PySem.Str) := [(bareOf a b c ++ S' ".", lowOf c ++ S' "."), (S' "." ++ bareOf a b c, lowOf c), (bareOf a b c ++ S' "..a", S' "..a")]
def add4 : List (PySem.Str × PySem.Str) := [(S' "a" ++ lowOf c ++ S' "b", lowOf c), (bareOf a b c ++ S' ".7.a", S' ".7")]
def add5 : List (PySem.Str × PySem.Str) := [(bareOf a b c ++ S' ".9087", lowOf c ++ S' ".9087"), (bareOf a b c ++ S' ".7", lowOf c), (bareOf a b c ++ S' ".7.a", lowOf c ++ S' ".7")]
def add6 : List (PySem.Str × PySem.Str) := [(bareOf a b c, S' "." ++ bareOf a b c), (bareOf a b c, c), (bareOf a b c ++ S' ".", lowOf c), (bareOf a b c ++ S' "..a", lowOf c ++ S' "."), (bareOf a b c, S' ".")]
def asks : List (PySem.Str × PySem.Str) := asks1 a b c ++ add2 a b c ++ add3 a b c ++ add4 a b c ++ add5 a b c ++ add6 a b c
end
def ansU : List Bool := List.replicate 10 true ++ List.replicate 10 false
def ansD : List Bool := List.replicate 7 true ++ List.replicate 3 false ++ List.replicate 2 true ++ List.replicate 8 false
structure JudgedOk (a b c : PySem.Str) : Prop where
  t : ThreeOk a b c
  ok : ∀ p ∈ asks a b c, Ok p.1 ∧ Ok p.2
  u : (asks a b c).map (fun p => udm p.1 p.2) = ansU
  d : (asks a b c).map (fun p => dm p.1 p.2) = ansD

theorem mem_dprs {d : Dat} {l : List (PySem.Str × PySem.Str)} (h : d ∈ dprs l) : ∃ p ∈ l, d = .tuple [.str p.1, .str p.2] := by
  obtain ⟨p, x, e⟩ := List.mem_map.mp h
  exact ⟨p, x, e.symm⟩

section
variable {prog : Program} {w : World} {A : Around} {env : Env} {h₀ : Heap} {L : Addr} {m : Mp} {I : Led} {e1 e2 : PySem.Expr} {pos : Pos} {x y : PySem.Str} {k : Nat} {es : List PySem.Expr} {l : List (PySem.Str × PySem.Str)}
theorem args_pair (h1 : Ex prog w A env h₀ L m I e1 (.str x)) (h2 : Ex prog w A env h₀ L m I e2 (.str y)) (h3 : Args prog w A env h₀ L m I es (dprs l))
    (he : starEach (.Tuple [e1, e2] k pos :: es) env = (false, eval (.Tuple [e1, e2] k pos) env) :: starEach es env := by rfl) (he1 : starEach [e1, e2] env = (false, eval e1 env) :: starEach [e2] env := by rfl) (he2 : starEach [e2] env = (false, eval e2 env) :: starEach [] env := by rfl) :
    Args prog w A env h₀ L m I (.Tuple [e1, e2] k pos :: es) (dprs ((x, y) :: l)) :=
  args_cons' (d := pr (x, y)) (ex_tuple (args_cons' h1 (args_cons' h2 args_nil' he2) he1) (by rw [sizeLine_eq]; simp)) h3 he
theorem args_nilP : Args prog w A env h₀ L m I [] (dprs []) := args_nil'
end

theorem fn_judged (a b c : PySem.Str) (T : JudgedOk a b c) : FnP w mean mg mb 112 3 [.list (dstrs [a, b, c])] (.bool true) := by
  refine fn_enter (k := 2) [Str.ofString "row"] (ho := by with_unfolding_all rfl) (by with_unfolding_all rfl) (fun vs h => by match vs, h with | [a], _ => with_unfolding_all rfl) (by with_unfolding_all rfl) (by with_unfolding_all rfl) rfl (by decide) ?_
  intro A h₀ L I m S V
  obtain ⟨j1, lb, ll⟩ := three_facts T.t
  have hc := T.t.lc
  have hub := T.t.ub
  have hul := T.t.ul
  have qal : (S' "a" ++ lowOf c).length ≤ 100 := by have : (S' "a").length = 1 := by decide
                                                    rw [str_len_app]; omega
  refine blk_put V (ex_join (l := [a, b, c]) (ex_str _ _) (ex_name V (.head _) rfl) j1) fun m n V => ?_
  refine blk_put V (ex_add2 (ex_str _ _) (ex_item_neg (d := .str c) (ex_name V (.tail _ (.head _)) rfl) (ex_neg_int (ex_int _ _)) (by decide) (by simp) rfl (by decide)) (by decide) (by omega)) fun m n V => ?_
  have bdef : Txt.join dot [a, b, c] = bareOf a b c := rfl
  have ldef : S' "." ++ c = lowOf c := rfl
  rw [bdef, ldef] at V
  have hB : ∀ pos, Ex prog w A _ h₀ L m (n ++ I) (.Name (Str.ofString "bare") pos) (.str (bareOf a b c)) := fun pos => ex_name (pos := pos) V (.tail _ (.head _)) rfl
  have hL : ∀ pos, Ex prog w A _ h₀ L m (n ++ I) (.Name (Str.ofString "low") pos) (.str (lowOf c)) := fun pos => ex_name (pos := pos) V (.head _) rfl
  refine blk_put (d := .list (dprs (asks1 a b c))) V (ex_list (args_pair (hB _) (ex_upper (hB _) (fit_len (by omega))) (args_pair (hL _) (ex_upper (hL _) (fit_len (by omega))) (args_pair (ex_add2 (hB _) (ex_str _ _) (by omega) (by decide)) (ex_add2 (ex_upper (hB _) (fit_len (by omega))) (ex_str _ _) (by omega) (by decide)) (args_pair (ex_str _ _) (ex_str _ _) args_nilP)))) (by rw [sizeLine_eq]; simp [asks1])) fun m n V => ?_
  have hB : ∀ pos, Ex prog w A _ h₀ L m (n ++ I) (.Name (Str.ofString "bare") pos) (.str (bareOf a b c)) := fun pos => ex_name (pos := pos) V (.tail _ (.tail _ (.head _))) rfl
  have hL : ∀ pos, Ex prog w A _ h₀ L m (n ++ I) (.Name (Str.ofString "low") pos) (.str (lowOf c)) := fun pos => ex_name (pos := pos) V (.tail _ (.head _)) rfl
  have hR : ∀ pos, Ex prog w A _ h₀ L m (n ++ I) (.Name (Str.ofString "row") pos) (.list (dstrs [a, b, c])) := fun pos => ex_name (pos := pos) V (.tail _ (.tail _ (.tail _ (.head _)))) rfl
  refine blk_put (d := .list (dprs (asks1 a b c ++ add2 a b c))) (V.sub (ρ' := [(Str.ofString "low", .str (lowOf c)), (Str.ofString "bare", .str (bareOf a b c)), (Str.ofString "row", .list (dstrs [a, b, c]))]) (fun p hp => .tail _ hp))
    ((ex_add_list (ex_name V (.head _) rfl) (ex_list (ds := dprs (add2 a b c)) (args_pair (ex_add2 (hB _) (ex_str _ _) (by omega) (by decide)) (ex_add2 (hL _) (ex_str _ _) (by omega) (by decide)) (args_pair (ex_add2 (hB _) (ex_str _ _) (by omega) (by decide)) (ex_str _ _) (args_pair (ex_add2 (hB _) (ex_str _ _) (by omega) (by decide)) (ex_str _ _) args_nilP))) (by rw [sizeLine_eq]; simp [add2])) (by rw [sizeLine_eq]; simp [asks1, add2, add3, add4, add5, add6])).cast (by rw [dprs, dprs, dprs, ← List.map_append])) fun m n V => ?_
  have hB : ∀ pos, Ex prog w A _ h₀ L m (n ++ I) (.Name (Str.ofString "bare") pos) (.str (bareOf a b c)) := fun pos => ex_name (pos := pos) V (.tail _ (.tail _ (.head _))) rfl
  have hL : ∀ pos, Ex prog w A _ h₀ L m (n ++ I) (.Name (Str.ofString "low") pos) (.str (lowOf c)) := fun pos => ex_name (pos := pos) V (.tail _ (.head _)) rfl
  have hR : ∀ pos, Ex prog w A _ h₀ L m (n ++ I) (.Name (Str.ofString "row") pos) (.list (dstrs [a, b, c])) := fun pos => ex_name (pos := pos) V (.tail _ (.tail _ (.tail _ (.head _)))) rfl
  refine blk_put (d := .list (dprs (asks1 a b c ++ add2 a b c ++ add3 a b c))) (V.sub (ρ' := [(Str.ofString "low", .str (lowOf c)), (Str.ofString "bare", .str (bareOf a b c)), (Str.ofString "row", .list (dstrs [a, b, c]))]) (fun p hp => .tail _ hp))
    ((ex_add_list (ex_name V (.head _) rfl) (ex_list (ds := dprs (add3 a b c)) (args_pair (ex_add2 (hB _) (ex_str _ _) (by omega) (by decide)) (ex_add2 (hL _) (ex_str _ _) (by omega) (by decide)) (args_pair (ex_add2 (ex_str _ _) (hB _) (by decide) (by omega)) (hL _) (args_pair (ex_add2 (hB _) (ex_str _ _) (by omega) (by decide)) (ex_str _ _) args_nilP))) (by rw [sizeLine_eq]; simp [add3])) (by rw [sizeLine_eq]; simp [asks1, add2, add3, add4, add5, add6])).cast (by rw [dprs, dprs, dprs, ← List.map_append])) fun m n V => ?_
  have hB : ∀ pos, Ex prog w A _ h₀ L m (n ++ I) (.Name (Str.ofString "bare") pos) (.str (bareOf a b c)) := fun pos => ex_name (pos := pos) V (.tail _ (.tail _ (.head _))) rfl
  have hL : ∀ pos, Ex prog w A _ h₀ L m (n ++ I) (.Name (Str.ofString "low") pos) (.str (lowOf c)) := fun pos => ex_name (pos := pos) V (.tail _ (.head _)) rfl
  have hR : ∀ pos, Ex prog w A _ h₀ L m (n ++ I) (.Name (Str.ofString "row") pos) (.list (dstrs [a, b, c])) := fun pos => ex_name (pos := pos) V (.tail _ (.tail _ (.tail _ (.head _)))) rfl
  refine blk_put (d := .list (dprs (asks1 a b c ++ add2 a b c ++ add3 a b c ++ add4 a b c))) (V.sub (ρ' := [(Str.ofString "low", .str (lowOf c)), (Str.ofString "bare", .str (bareOf a b c)), (Str.ofString "row", .list (dstrs [a, b, c]))]) (fun p hp => .tail _ hp))
    ((ex_add_list (ex_name V (.head _) rfl) (ex_list (ds := dprs (add4 a b c)) (args_pair (ex_add2 (ex_add2 (ex_str _ _) (hL _) (by decide) (by omega)) (ex_str _ _) (by omega) (by decide)) (hL _) (args_pair (ex_add2 (hB _) (ex_str _ _) (by omega) (by decide)) (ex_str _ _) args_nilP)) (by rw [sizeLine_eq]; simp [add4])) (by rw [sizeLine_eq]; simp [asks1, add2, add3, add4, add5, add6])).cast (by rw [dprs, dprs, dprs, ← List.map_append])) fun m n V => ?_
  have hB : ∀ pos, Ex prog w A _ h₀ L m (n ++ I) (.Name (Str.ofString "bare") pos) (.str (bareOf a b c)) := fun pos => ex_name (pos := pos) V (.tail _ (.tail _ (.head _))) rfl
  have hL : ∀ pos, Ex prog w A _ h₀ L m (n ++ I) (.Name (Str.ofString "low") pos) (.str (lowOf c)) := fun pos => ex_name (pos := pos) V (.tail _ (.head _)) rfl
  have hR : ∀ pos, Ex prog w A _ h₀ L m (n ++ I) (.Name (Str.ofString "row") pos) (.list (dstrs [a, b, c])) := fun pos => ex_name (pos := pos) V (.tail _ (.tail _ (.tail _ (.head _)))) rfl
  refine blk_put (d := .list (dprs (asks1 a b c ++ add2 a b c ++ add3 a b c ++ add4 a b c ++ add5 a b c))) (V.sub (ρ' := [(Str.ofString "low", .str (lowOf c)), (Str.ofString "bare", .str (bareOf a b c)), (Str.ofString "row", .list (dstrs [a, b, c]))]) (fun p hp => .tail _ hp))
    ((ex_add_list (ex_name V (.head _) rfl) (ex_list (ds := dprs (add5 a b c)) (args_pair (ex_add2 (hB _) (ex_str _ _) (by omega) (by decide)) (ex_add2 (hL _) (ex_str _ _) (by omega) (by decide)) (args_pair (ex_add2 (hB _) (ex_str _ _) (by omega) (by decide)) (hL _) (args_pair (ex_add2 (hB _) (ex_str _ _) (by omega) (by decide)) (ex_add2 (hL _) (ex_str _ _) (by omega) (by decide)) args_nilP))) (by rw [sizeLine_eq]; simp [add5])) (by rw [sizeLine_eq]; simp [asks1, add2, add3, add4, add5, add6])).cast (by rw [dprs, dprs, dprs, ← List.map_append])) fun m n V => ?_
  have hB : ∀ pos, Ex prog w A _ h₀ L m (n ++ I) (.Name (Str.ofString "bare") pos) (.str (bareOf a b c)) := fun pos => ex_name (pos := pos) V (.tail _ (.tail _ (.head _))) rfl
  have hL : ∀ pos, Ex prog w A _ h₀ L m (n ++ I) (.Name (Str.ofString "low") pos) (.str (lowOf c)) := fun pos => ex_name (pos := pos) V (.tail _ (.head _)) rfl
  have hR : ∀ pos, Ex prog w A _ h₀ L m (n ++ I) (.Name (Str.ofString "row") pos) (.list (dstrs [a, b, c])) := fun pos => ex_name (pos := pos) V (.tail _ (.tail _ (.tail _ (.head _)))) rfl
  refine blk_put (d := .list (dprs (asks1 a b c ++ add2 a b c ++ add3 a b c ++ add4 a b c ++ add5 a b c ++ add6 a b c))) (V.sub (ρ' := [(Str.ofString "low", .str (lowOf c)), (Str.ofString "bare", .str (bareOf a b c)), (Str.ofString "row", .list (dstrs [a, b, c]))]) (fun p hp => .tail _ hp))
    ((ex_add_list (ex_name V (.head _) rfl) (ex_list (ds := dprs (add6 a b c)) (args_pair (hB _) (ex_add2 (ex_str _ _) (hB _) (by decide) (by omega)) (args_pair (hB _) (ex_item_neg (d := .str c) (hR _) (ex_neg_int (ex_int _ _)) (by decide) (by simp) rfl (by decide)) (args_pair (ex_add2 (hB _) (ex_str _ _) (by omega) (by decide)) (hL _) (args_pair (ex_add2 (hB _) (ex_str _ _) (by omega) (by decide)) (ex_add2 (hL _) (ex_str _ _) (by omega) (by decide)) (args_pair (hB _) (ex_str _ _) args_nilP))))) (by rw [sizeLine_eq]; simp [add6])) (by rw [sizeLine_eq]; simp [asks1, add2, add3, add4, add5, add6])).cast (by rw [dprs, dprs, dprs, ← List.map_append])) fun m n V => ?_
  have adef : asks1 a b c ++ add2 a b c ++ add3 a b c ++ add4 a b c ++ add5 a b c ++ add6 a b c = asks a b c := rfl
  rw [adef] at V
  have hal : (dprs (asks a b c)).length = 20 := by simp [asks, asks1, add2, add3, add4, add5, add6]
  have hu : ((dprs (asks a b c)).filter fun _ => true).map (fun d => Dat.str (tf (udm (unP d).1 (unP d).2))) = dstrs (ansU.map tf) := by
    rw [List.filter_eq_self.mpr (fun _ _ => rfl), ← T.u]; simp [dprs, dstrs, unP, pr]
  have hd : ((dprs (asks a b c)).filter fun _ => true).map (fun d => Dat.str (tf (dm (unP d).1 (unP d).2))) = dstrs (ansD.map tf) := by
    rw [List.filter_eq_self.mpr (fun _ _ => rfl), ← T.d]; simp [dprs, dstrs, unP, pr]
  refine blk_put (d := .list (dstrs (ansU.map tf ++ ansD.map tf))) V ((ex_add_list
    ((ex_comp (by rfl) (comp1_is (cl := []) (ρf := []) (items := dprs (asks a b c)) (target := .Tuple [.Name (Str.ofString "a") _, .Name (Str.ofString "b") _] _ _) (f := fun d => .str (tf (udm (unP d).1 (unP d).2))) (t := fun _ => true) (bs := fun d => [(Str.ofString "a", .str (unP d).1), (Str.ofString "b", .str (unP d).2)]) (it_list S.hd (ex_name V (.head _) rfl)) rfl (by decide) (by rfl) (by decide) (by intro _; rfl) (fun C => Vars.nil) ?_ ?_ (fun d hd => .inl ⟨rfl, rfl⟩) ?_ ?_)).cast (congrArg Dat.list hu))
    ((ex_comp (by rfl) (comp1_is (cl := []) (ρf := []) (items := dprs (asks a b c)) (target := .Tuple [.Name (Str.ofString "a") _, .Name (Str.ofString "b") _] _ _) (f := fun d => .str (tf (dm (unP d).1 (unP d).2))) (t := fun _ => true) (bs := fun d => [(Str.ofString "a", .str (unP d).1), (Str.ofString "b", .str (unP d).2)]) (it_list S.hd (ex_name V (.head _) rfl)) rfl (by decide) (by rfl) (by decide) (by intro _; rfl) (fun C => Vars.nil) ?_ ?_ (fun d hd => .inl ⟨rfl, rfl⟩) ?_ ?_)).cast (congrArg Dat.list hd))
    (by rw [sizeLine_eq]; decide)).cast (by rw [dstrs, dstrs, dstrs, ← List.map_append])) fun m n V => ?_
  · intro d hd
    obtain ⟨p, hp, rfl⟩ := mem_dprs hd
    exact takes_pair S.hd (fun _ => rfl) (fun _ => rfl) rfl (by decide)
  · intro d hd C q hq
    rcases List.mem_cons.mp hq with rfl | hq
    · rfl
    · rw [List.mem_singleton.mp hq]; rfl
  · intro d hd _ C K _ VV
    obtain ⟨p, hp, rfl⟩ := mem_dprs hd
    exact ex_str_bool S ⟨by with_unfolding_all rfl, rfl, rfl, rfl, rfl⟩ (ex_call S (own_udm w rfl rfl rfl) (fn_udm _ _ (T.ok p hp).1 (T.ok p hp).2) (args_cons' (ex_name VV (.head _) rfl) (args_cons' (ex_name VV (.tail _ (.head _)) rfl) args_nil')))
  · rw [hal, sizeLine_eq]; decide
  · intro d hd
    obtain ⟨p, hp, rfl⟩ := mem_dprs hd
    exact takes_pair S.hd (fun _ => rfl) (fun _ => rfl) rfl (by decide)
  · intro d hd C q hq
    rcases List.mem_cons.mp hq with rfl | hq
    · rfl
    · rw [List.mem_singleton.mp hq]; rfl
  · intro d hd _ C K _ VV
    obtain ⟨p, hp, rfl⟩ := mem_dprs hd
    exact ex_str_bool S ⟨by with_unfolding_all rfl, rfl, rfl, rfl, rfl⟩ (ex_call S (own_dm w rfl rfl rfl) (fn_dm _ _ (T.ok p hp).1 (T.ok p hp).2) (args_cons' (ex_name VV (.head _) rfl) (args_cons' (ex_name VV (.tail _ (.head _)) rfl) args_nil')))
  · rw [hal, sizeLine_eq]; decide
  have okA : okd (dstrs (ansU.map tf ++ ansD.map tf)) := okd_strs fun x hx => by
    rcases List.mem_append.mp hx with hx | hx
    · obtain ⟨b, _, rfl⟩ := List.mem_map.mp hx; cases b <;> decide +kernel
    · obtain ⟨b, _, rfl⟩ := List.mem_map.mp hx; cases b <;> decide +kernel
  refine blk_return (ex_eq_list (t := true) (ex_name V (.head _) rfl) ((ex_add_list (ex_add_list (ex_add_list (ex_add_list (ex_add_list
    (ex_mul_lst (ds := dstrs [S' "True"]) (ex_list (args_cons' (ex_str _ _) args_nil') (by decide)) (ex_int _ _) (by decide) (by decide) (by decide))
    (ex_mul_lst (ds := dstrs [S' "False"]) (ex_list (args_cons' (ex_str _ _) args_nil') (by decide)) (ex_int _ _) (by decide) (by decide) (by decide)) (by rw [sizeLine_eq]; decide))
    (ex_mul_lst (ds := dstrs [S' "True"]) (ex_list (args_cons' (ex_str _ _) args_nil') (by decide)) (ex_int _ _) (by decide) (by decide) (by decide)) (by rw [sizeLine_eq]; decide))
    (ex_mul_lst (ds := dstrs [S' "False"]) (ex_list (args_cons' (ex_str _ _) args_nil') (by decide)) (ex_int _ _) (by decide) (by decide) (by decide)) (by rw [sizeLine_eq]; decide))
    (ex_mul_lst (ds := dstrs [S' "True"]) (ex_list (args_cons' (ex_str _ _) args_nil') (by decide)) (ex_int _ _) (by decide) (by decide) (by decide)) (by rw [sizeLine_eq]; decide))
    (ex_mul_lst (ds := dstrs [S' "False"]) (ex_list (args_cons' (ex_str _ _) args_nil') (by decide)) (ex_int _ _) (by decide) (by decide) (by decide)) (by rw [sizeLine_eq]; decide)).cast (d' := .list (dstrs (ansU.map tf ++ ansD.map tf))) (by rfl)) okA okA S.units (by simp))
end Mine
end
section
/-! part FwS -/
open PySem PySem.W PyProof.Rows PySem.Spec PySem.Calls PyProof.V
set_option maxRecDepth 100000
namespace Mine
section
variable {prog : Program} {w : World} {A : Around} {env : Env} {h₀ : Heap} {L : Addr} {m : Mp} {I n : Led} {ρ ρ' : List (PySem.Str × Dat)} {e e1 e2 : PySem.Expr} {d r : Dat} {pos np ap : Pos} {a b : Int} {x y z : PySem.Str} {v : Value} {pl : Sem Bool} {ds : List Dat} {T T' : Nat}
variable {body rest : List Stmt} {Nx : Mp → Led → Prop}
/-- as Ex, and the count of what was made does not fall -/
def ExT (prog : Program) (w : World) (A : Around) (env : Env) (h₀ : Heap) (L : Addr) (m : Mp) (I : Led) (e : PySem.Expr) (d : Dat) : Prop :=
  ∀ (J : Led) (s : Shared) (Q E : Value → Shared → Prop), Sub I J → Fr h₀ L s.heap m → News h₀ L s.heap J →
    (∀ v nw h' tk, s.toks ≤ tk → Fr h₀ L h' m → News h₀ L h' (nw ++ J) → Off nw J → DatIn (nw ++ I) v d → Q v { s with heap := h', toks := tk }) →
    wpAny (model prog w) A (eval e env) Q E s
theorem exT_name (V : Vars env L m I ρ) (hx : (x, d) ∈ ρ) (hk : env.scope.kind = .function) (hd : (x == ("__debug__" : PySem.Str)) = false := by decide) : ExT prog w A env h₀ L m I (.Name x pos) d := by
  intro J s Q E hs F N h
  obtain ⟨v, a, D⟩ := V _ hx
  have k : Q v s := h v [] _ _ (Nat.le_refl _) F N Off.nil D
  cases a with
  | loc a b c => subst a; exact wpAny_Name (wpAny_loadName_local hk b F.ns c k) hd
  | cell c o a b e f => exact wpAny_Name (wpAny_loadName_cell hk a b ⟨o, N.get (hs _ e), f⟩ k) hd
  | comp oC m₂ a b c e => exact wpAny_Name (wpAny_loadName_local hk a (c.ns (N.get (hs _ b))) e k) hd
theorem exT_int (x : Int) (k : Nat) : ExT prog w A env h₀ L m I (.Constant (.int x) k pos) (.int x) := by
  intro J s Q E hs F N h
  exact wpAny_Constant_int (h _ [] _ _ (Nat.le_succ _) F N Off.nil (.int _ _))
theorem exT_add_int (h1 : ExT prog w A env h₀ L m I e1 (.int a)) (h2 : ExT prog w A env h₀ L m I e2 (.int b)) : ExT prog w A env h₀ L m I (.BinOp e1 .Add e2 pos) (.int (a + b)) := by
  intro J s Q E hs F N h
  refine wpAny_BinOp (h1 J s _ _ hs F N fun v nw h' tk l F' N' o D => h2 J _ _ _ hs F' (drop_mid N') fun v2 nw2 h2' tk2 l2 F2 N2 o2 D2 => ?_)
  cases D; cases D2
  exact add_int (h _ [] _ _ (Nat.le_succ_of_le (Nat.le_trans l l2)) F2 (drop_mid N2) Off.nil (.int _ _))
theorem exT_mod_int (h1 : ExT prog w A env h₀ L m I e1 (.int a)) (h2 : ExT prog w A env h₀ L m I e2 (.int b)) (hb : b ≠ 0) : ExT prog w A env h₀ L m I (.BinOp e1 .Mod e2 pos) (.int (a.fmod b)) := by
  intro J s Q E hs F N h
  refine wpAny_BinOp (h1 J s _ _ hs F N fun v nw h' tk l F' N' o D => h2 J _ _ _ hs F' (drop_mid N') fun v2 nw2 h2' tk2 l2 F2 N2 o2 D2 => ?_)
  cases D; cases D2
  exact mod_int' hb (h _ [] _ _ (Nat.le_succ_of_le (Nat.le_trans l l2)) F2 (drop_mid N2) Off.nil (.int _ _))
theorem exT_item {ds : List Dat} (h1 : ExT prog w A env h₀ L m I e1 (.list ds)) (h2 : ExT prog w A env h₀ L m I e2 (.int a)) (h0 : 0 ≤ a) (hk : ds[a.toNat]? = some d) (hz : a < 2 ^ 63)
    (hsub : SubEq e2 := by unfold SubEq; intros; with_unfolding_all rfl) : ExT prog w A env h₀ L m I (.Subscript e1 e2 pos) d := by
  intro J s Q E hs F N h
  refine Subscript_ (h1 J s _ _ hs F N fun v nw h' tk l F' N' o D => h2 (nw ++ J) _ _ _ hs.app F' N' fun v2 nw2 h2' tk2 l2 F2 N2 o2 D2 => ?_)
  cases D with
  | list hm Dv =>
    cases D2
    obtain ⟨hlt, hd⟩ := List.getElem?_eq_some_iff.mp hk
    obtain ⟨v, hv, Dx⟩ := Dv.get hlt
    refine kba_turn (value' := PySem.Expr.Name (PySem.Str.ofString "_") ⟨0, 0, 0, 0⟩) (fun _ => rfl) ?_
    refine kim_list (drop_mid N2) (mem_up hs hm) rfl rfl h0 hz hv ?_ (hsub _ _ _) (fun _ => rfl)
    refine h v nw _ _ (Nat.le_trans l l2) F2 (drop_mid N2) o ?_
    rw [← hd]; exact Dx

/-- as Blk, from a state that has made T things or more -/
def BlkT (prog : Program) (w : World) (A : Around) (env : Env) (h₀ : Heap) (L : Addr) (I : Led) (r : Dat) (T : Nat) (body : List Stmt) (m : Mp) (n : Led) (Nx : Mp → Led → Prop) : Prop :=
  ∀ (J : Led) (s : Shared) (Q : Flow → Shared → Prop) (E : Value → Shared → Prop), T ≤ s.toks → Sub I J → Fr h₀ L s.heap m → News h₀ L s.heap (n ++ J) → Off n J →
    (∀ v nw h' tk m', Fr h₀ L h' m' → News h₀ L h' (nw ++ J) → Off nw J → DatIn (nw ++ I) v r → Q (.ret v) { s with heap := h', toks := tk }) →
    (∀ m' n' h' tk, Fr h₀ L h' m' → News h₀ L h' (n' ++ J) → Off n' J → Nx m' n' → Q .next { s with heap := h', toks := tk }) →
    wpAny (model prog w) A (execs body env) Q E s
theorem blkT_of (h : Blk prog w A env h₀ L I r body m n Nx) : BlkT prog w A env h₀ L I r T body m n Nx := fun J s Q E _ a b c d e f => h J s Q E a b c d e f
theorem blk_ofT (h : BlkT prog w A env h₀ L I r 0 body m n Nx) : Blk prog w A env h₀ L I r body m n Nx := fun J s Q E a b c d e f => h J s Q E (Nat.zero_le _) a b c d e f

/-- x = e: then one thing at least was made -/
theorem blkT_put {px ps : Pos} (V : Vars env L m (n ++ I) ρ) (h1 : Ex prog w A env h₀ L m (n ++ I) e d) (h2 : ∀ m' n', Vars env L m' (n' ++ I) ((x, d) :: ρ) → BlkT prog w A env h₀ L I r 1 rest m' n' Nx)
    (hl : env.locals = L := by rfl) (hx : env.kindOf x = some .local := by rfl) (hk : env.scope.kind = .function := by rfl) (hn : ((ρ.map (·.1)).all fun y => y != x) = true := by with_unfolding_all rfl) (hw : swapsWith e (some (.Name x px)) ps.line env = pure false := by rfl) :
    BlkT prog w A env h₀ L I r T (.Assign [.Name x px] e ps :: rest) m n Nx := by
  intro J s Q E _ hs F N o kr kn
  refine wpAny_execs_cons (wpAny_Assign_Name (h1 (n ++ J) s _ E (Sub.front hs) F N fun v nw h' tk F' N' o' D => ?_) hw)
  refine wpAny_storeName_local hx (by rw [hl]; exact F'.ns) (fun h'' hn' hs' => ?_) (by rw [hk]; rfl)
  rw [hl] at hn' hs'
  have F2 : Fr h₀ L h'' (upd m x v) := F'.set hn' hs'
  have N2 : News h₀ L h'' (nw ++ (n ++ J)) := N'.set hs'
  refine h2 _ (nw ++ n) ?_ J _ Q E (Nat.le_add_left 1 _) hs F2 (by rw [List.append_assoc]; exact N2) (o'.app o) kr kn
  rw [List.append_assoc]
  refine V.put hl hx ?_ D
  rw [List.all_map] at hn; exact hn
/-- x = e1[e2], a sign of a text: it is a thing of its own -/
theorem blkT_pick {px ps : Pos} (V : Vars env L m (n ++ I) ρ) (h1 : ExT prog w A env h₀ L m (n ++ I) e1 (.str y)) (h2 : ExT prog w A env h₀ L m (n ++ I) e2 (.int a)) (hr : fitsSsize a = true) (h3 : -(y.length : Int) ≤ a) (h4 : a < y.length)
    (k : ∀ m' n' t, Vars env L m' (n' ++ I) ((x, .str (Txt.item y a)) :: ρ) → m' x = some (.str (Txt.item y a) t) → 1 ≤ t → BlkT prog w A env h₀ L I r (t + 1) rest m' n' Nx)
    (hl : env.locals = L := by rfl) (hx : env.kindOf x = some .local := by rfl) (hk : env.scope.kind = .function := by rfl) (hn : ((ρ.map (·.1)).all fun y => y != x) = true := by with_unfolding_all rfl) (hw : swapsWith (.Subscript e1 e2 pos) (some (.Name x px)) ps.line env = pure false := by rfl)
    (hsub : ∀ t u, subscripted e2 false (.str y t) (.int a u) = operate [.str y t, .int a u] (getItem (.str y t) (.int a u)) := by intros; with_unfolding_all rfl) (hl' : ∀ t r, letTemporaryGo e1 (.str y t) r = pure () := by intros; with_unfolding_all rfl) :
    BlkT prog w A env h₀ L I r 1 (.Assign [.Name x px] (.Subscript e1 e2 pos) ps :: rest) m n Nx := by
  intro J s Q E hT hs F N o kr kn
  refine wpAny_execs_cons (wpAny_Assign_Name (Subscript_ (h1 (n ++ J) s _ E (Sub.front hs) F N fun v nw h' tk l F' N' o' D => h2 (n ++ J) _ _ _ (Sub.front hs) F' (drop_mid N') fun v2 nw2 h2' tk2 l2 F2 N2 o2 D2 => ?_)) hw)
  cases D; cases D2
  refine item_str hr h3 h4 (fun _ => ?_) (hsub _ _) (hl' _)
  refine wpAny_storeName_local hx (by rw [hl]; exact F2.ns) (fun h'' hn' hs' => ?_) (by rw [hk]; rfl)
  rw [hl] at hn' hs'
  have F3 := F2.set hn' hs'
  have N3 : News h₀ L h'' (n ++ J) := (drop_mid N2).set hs'
  have hl3 : s.toks ≤ tk2 := Nat.le_trans l l2
  refine k (upd m x (.str (Txt.item y a) tk2)) n tk2 ?_ (by simp [upd]) (Nat.le_trans hT hl3) J _ Q E ?_ hs F3 N3 o kr kn
  · refine V.put (nw := []) hl hx ?_ (.str _ _)
    rw [List.all_map] at hn; exact hn
  · show tk2 + 1 ≤ tk2 + 1 + 1
    exact Nat.le_succ _
/-- x = x.replace(z, ''), z a thing of its own -/
theorem blkT_strike {px ps p2 p3 : Pos} {c : PySem.Str} {t k1 : Nat} (V : Vars env L m (n ++ I) ((x, .str y) :: ρ)) (hz : m z = some (.str c t)) (ht : 1 ≤ t) (hlz : env.kindOf z = some .local)
    (hyz : (c == Str.ofString "") = false) (hb : y.length ≤ 1000000)
    (k : ∀ m' n', Vars env L m' (n' ++ I) ((x, .str (Txt.replace y c (Str.ofString ""))) :: ρ) → BlkT prog w A env h₀ L I r 1 rest m' n' Nx)
    (hl : env.locals = L := by rfl) (hx : env.kindOf x = some .local := by rfl) (hk : env.scope.kind = .function := by rfl) (hn : ((ρ.map (·.1)).all fun y => y != x) = true := by with_unfolding_all rfl) (hdx : (x == ("__debug__" : PySem.Str)) = false := by decide) (hdz : (z == ("__debug__" : PySem.Str)) = false := by decide)
    (hw : swapsWith (.Call (.Attribute (.Name x np) "replace" ap) [.Name z p2, .Constant (.str (Str.ofString "")) k1 p3] [] pos) (some (.Name x px)) ps.line env = pure false := by rfl)
    (he : MethEq (.Name x np) "replace" ap [.Name z p2, .Constant (.str (Str.ofString "")) k1 p3] pos env pl := by rfl) (he1 : starEach [.Name z p2, .Constant (.str (Str.ofString "")) k1 p3] env = (false, eval (.Name z p2) env) :: starEach [.Constant (.str (Str.ofString "")) k1 p3] env := by rfl)
    (he2 : starEach [.Constant (.str (Str.ofString "")) k1 p3] env = (false, eval (.Constant (.str (Str.ofString "")) k1 p3) env) :: starEach [] env := by rfl) (hpl : (backTo pos (starEach [.Constant (.str (Str.ofString "")) k1 p3] env)).any (·.1) = false := by rfl) :
    BlkT prog w A env h₀ L I r (t + 1) (.Assign [.Name x px] (.Call (.Attribute (.Name x np) "replace" ap) [.Name z p2, .Constant (.str (Str.ofString "")) k1 p3] [] pos) ps :: rest) m n Nx := by
  intro J s Q E hT hs F N o kr kn
  obtain ⟨v, hv, D⟩ := V _ List.mem_cons_self
  cases D with
  | str _ t0 =>
  have V' : Vars env L m (n ++ I) ρ := V.sub fun p hp => .tail _ hp
  refine wpAny_execs_cons (wpAny_Assign_Name (MethodCall' he (name_at hv (Sub.front hs) F N ?_ hk hdx)) hw)
  with_reducible refine GM.replace ?_
  refine callWith_method1 (spliced_more (name_at (.loc hl hlz hz) (Sub.front hs) F N (spliced_more (Calls.Constant_str (spliced_none ?_)) he2) hk hdz) he1) he1 hpl
  have hlen0 : (Str.ofString "").length = 0 := by decide
  refine SC.replace (by show (t : Nat) ≠ 0; omega) (by show (s.toks : Nat) ≠ 0; omega) (by show (t : Nat) ≠ s.toks; omega) hyz (by rw [hlen0]; omega) fun t' k' => ?_
  refine wpAny_storeName_local hx (by rw [hl]; exact F.ns) (fun h'' hn' hs' => ?_) (by rw [hk]; rfl)
  rw [hl] at hn' hs'
  refine k (upd m x (.str (Txt.replace y c (Str.ofString "")) t')) n ?_ J _ Q E (Nat.le_add_left 1 _) hs (F.set hn' hs') (N.set hs') o kr kn
  refine V'.put (nw := []) hl hx ?_ (.str _ _)
  rw [List.all_map] at hn; exact hn
end
end Mine
end
section
/-! part Fn9 -/
open PySem PySem.W PyProof.Rows PySem.Spec PySem.Calls PyProof.V
set_option maxRecDepth 100000
set_option maxHeartbeats 4000000
namespace Mine
variable {w : World} {mean : ExcName → Option Value} {mg mb : Mp}

def small₀ : PySem.Str := Str.ofString "abcdefghijkmnopqrstuvwxyz"
def signs₀ : PySem.Str := Str.ofString "!\"#$%&'()*+,-/0123456789:;<=>?\x40[\\]^_`" ++ small₀ ++ Str.ofString "{|}~"
def first₀ (p0 : Int) : PySem.Str := Txt.item small₀ (p0.fmod 25)
def signs₁ (p0 : Int) : PySem.Str := Txt.replace signs₀ (first₀ p0) nil₀
def second₀ (p0 p1 : Int) : PySem.Str := Txt.item (signs₁ p0) ((37 + p1).fmod 65)
def signs₂ (p0 p1 : Int) : PySem.Str := Txt.replace (signs₁ p0) (second₀ p0 p1) nil₀
def third₀ (p0 p1 p2 : Int) : PySem.Str := Txt.item (signs₂ p0 p1) ((37 + p2).fmod 64)
def lawNames (p0 p1 p2 : Int) : List PySem.Str := [first₀ p0, second₀ p0 p1 ++ first₀ p0, third₀ p0 p1 p2 ++ second₀ p0 p1 ++ first₀ p0]

theorem item_ne (x : PySem.Str) (i : Int) : (Txt.item x i == Str.ofString "") = false := by
  refine beq_false_of_ne fun e => ?_
  have h := congrArg Str.length e
  have h2 : (Txt.item x i).length = 1 := rfl
  rw [h2] at h
  have h3 : (Str.ofString "").length = 0 := by decide
  omega

theorem fn_names (p0 p1 p2 p3 p4 : Int) (h1 : (signs₁ p0).length = 65) (h2 : (signs₂ p0 p1).length = 64) : FnP w mean mg mb 85 1 [.list [.int p0, .int p1, .int p2, .int p3, .int p4]] (.list (dstrs (lawNames p0 p1 p2))) := by
  refine fn_enter (k := 0) [Str.ofString "picks"] (ho := by with_unfolding_all rfl) (by with_unfolding_all rfl) (fun vs h => by match vs, h with | [a], _ => with_unfolding_all rfl) (by with_unfolding_all rfl) (by with_unfolding_all rfl) rfl (by decide) ?_
  intro A h₀ L I m S V
  have ls : small₀.length = 25 := by decide +kernel
  have lg : signs₀.length = 66 := by decide +kernel
  have l1 : ∀ x i, (Txt.item x i).length = 1 := fun x i => rfl
  refine blk_ofT (blkT_put V (ex_str _ _) fun m n V => ?_)
  have sdef : Str.ofString "abcdefghijkmnopqrstuvwxyz" = small₀ := rfl
  rw [sdef] at V
  refine blkT_put V (ex_add_str (ex_add_str (ex_str _ _) (ex_name V (.head _) rfl) (by rw [sizeLine_eq]; decide +kernel)) (ex_str _ _) (by rw [sizeLine_eq]; decide +kernel)) fun m n V => ?_
  have gdef : Str.ofString "!\"#$%&'()*+,-/0123456789:;<=>?\x40[\\]^_`" ++ small₀ ++ Str.ofString "{|}~" = signs₀ := rfl
  rw [gdef] at V
  have m25 : 0 ≤ p0.fmod 25 ∧ p0.fmod 25 < 25 := ⟨Int.fmod_nonneg_of_pos _ (by decide), Int.fmod_lt_of_pos _ (by decide)⟩
  have m65 : 0 ≤ (37 + p1).fmod 65 ∧ (37 + p1).fmod 65 < 65 := ⟨Int.fmod_nonneg_of_pos _ (by decide), Int.fmod_lt_of_pos _ (by decide)⟩
  have m64 : 0 ≤ (37 + p2).fmod 64 ∧ (37 + p2).fmod 64 < 64 := ⟨Int.fmod_nonneg_of_pos _ (by decide), Int.fmod_lt_of_pos _ (by decide)⟩
  have fit : ∀ z : Int, 0 ≤ z → z < 100 → fitsSsize z = true := fun z h1 h2 => by unfold fitsSsize; simp; omega
  refine blkT_pick V (exT_name V (.tail _ (.head _)) rfl) (exT_mod_int (exT_item (d := .int p0) (exT_name V (.tail _ (.tail _ (.head _))) rfl) (exT_int _ _) (by decide) rfl (by decide)) (exT_int _ _) (by decide)) (fit _ m25.1 (by omega)) (by omega) (by omega) fun m n t V hm ht => ?_
  have fdef : Txt.item small₀ (p0.fmod 25) = first₀ p0 := rfl
  rw [fdef] at V hm
  refine blkT_strike (ρ := [(Str.ofString "first", .str (first₀ p0)), (Str.ofString "small", .str small₀), (Str.ofString "picks", .list [.int p0, .int p1, .int p2, .int p3, .int p4])]) (V.sub (ρ' := [(Str.ofString "signs", .str signs₀), (Str.ofString "first", .str (first₀ p0)), (Str.ofString "small", .str small₀), (Str.ofString "picks", .list [.int p0, .int p1, .int p2, .int p3, .int p4])]) (fun p hp => ?_)) hm ht rfl (item_ne _ _) (by omega) fun m n V => ?_
  · rcases List.mem_cons.mp hp with rfl | hp
    · exact .tail _ (.head _)
    · rcases List.mem_cons.mp hp with rfl | hp
      · exact .head _
      · exact .tail _ (.tail _ hp)
  have g1 : Txt.replace signs₀ (first₀ p0) (Str.ofString "") = signs₁ p0 := rfl
  rw [g1] at V
  refine blkT_pick V (exT_name V (.head _) rfl) (exT_mod_int (exT_add_int (exT_int _ _) (exT_item (d := .int p1) (exT_name V (.tail _ (.tail _ (.tail _ (.head _)))) rfl) (exT_int _ _) (by decide) rfl (by decide))) (exT_int _ _) (by decide)) (fit _ m65.1 (by omega)) (by omega) (by omega) fun m n t V hm ht => ?_
  have s2def : Txt.item (signs₁ p0) ((37 + p1).fmod 65) = second₀ p0 p1 := rfl
  rw [s2def] at V hm
  refine blkT_strike (ρ := [(Str.ofString "second", .str (second₀ p0 p1)), (Str.ofString "first", .str (first₀ p0)), (Str.ofString "small", .str small₀), (Str.ofString "picks", .list [.int p0, .int p1, .int p2, .int p3, .int p4])]) (V.sub (ρ' := [(Str.ofString "signs", .str (signs₁ p0)), (Str.ofString "second", .str (second₀ p0 p1)), (Str.ofString "first", .str (first₀ p0)), (Str.ofString "small", .str small₀), (Str.ofString "picks", .list [.int p0, .int p1, .int p2, .int p3, .int p4])]) (fun p hp => ?_)) hm ht rfl (item_ne _ _) (by omega) fun m n V => ?_
  · rcases List.mem_cons.mp hp with rfl | hp
    · exact .tail _ (.head _)
    · rcases List.mem_cons.mp hp with rfl | hp
      · exact .head _
      · exact .tail _ (.tail _ hp)
  have g2 : Txt.replace (signs₁ p0) (second₀ p0 p1) (Str.ofString "") = signs₂ p0 p1 := rfl
  rw [g2] at V
  refine blkT_of (blk_put V (ex_item_str (ex_name V (.head _) rfl) (ex_mod_int (ex_add_int (ex_int _ _) (ex_item (k := 0) (d := .int p2) (ex_name V (.tail _ (.tail _ (.tail _ (.tail _ (.head _))))) rfl) (ex_int _ _) (by decide) rfl (by decide))) (ex_int _ _) (by decide)) (fit _ m64.1 (by omega)) (by omega) (by omega)) fun m n V => ?_)
  have t0 : Txt.item (signs₂ p0 p1) ((37 + p2).fmod 64) = third₀ p0 p1 p2 := rfl
  rw [t0] at V
  have q1 : (first₀ p0).length = 1 := rfl
  have q2 : (second₀ p0 p1).length = 1 := rfl
  have q3 : (third₀ p0 p1 p2).length = 1 := rfl
  have hF : ∀ pos, Ex prog w A _ h₀ L m (n ++ I) (.Name (Str.ofString "first") pos) (.str (first₀ p0)) := fun pos => ex_name (pos := pos) V (.tail _ (.tail _ (.tail _ (.head _)))) rfl
  have hS : ∀ pos, Ex prog w A _ h₀ L m (n ++ I) (.Name (Str.ofString "second") pos) (.str (second₀ p0 p1)) := fun pos => ex_name (pos := pos) V (.tail _ (.tail _ (.head _))) rfl
  refine blk_return (ex_list (ds := dstrs (lawNames p0 p1 p2)) (args_cons' (hF _) (args_cons' (ex_add_str (hS _) (hF _) (by rw [sizeLine_eq]; omega)) (args_cons' (ex_add_str (ex_add_str (ex_name V (.head _) rfl) (hS _) (by rw [sizeLine_eq]; omega)) (hF _) (by rw [sizeLine_eq, str_len_app]; omega)) args_nil'))) (by rw [sizeLine_eq]; simp [lawNames]))
end Mine
end
section
/-! part FwT -/
open PySem PySem.W PyProof.Rows PySem.Spec PySem.Calls PyProof.V
set_option maxRecDepth 100000
namespace Mine
section
variable {prog : Program} {w : World} {K : Frag} {p : Program} {loose : List PySem.Str} {mean : ExcName → Option Value} {mg mb : Mp} {A : Around} {env : Env} {h₀ : Heap} {L : Addr} {m : Mp} {I J n : Led} {ρ ρ' : List (PySem.Str × Dat)} {e e1 e2 : PySem.Expr} {d r : Dat} {pos np sp xp sq : Pos} {a b : Int} {x y z : PySem.Str} {v : Value} {k : Nat} {vs : List Value} {ns : List Int} {l : Addr} {scope : Scope} {cl : List (PySem.Str × Addr)}
theorem lpick_map {α β : Type} (f : α → β) (l : List α) (lo hi st : Option Int) : lpick (l.map f) lo hi st = (lpick l lo hi st).map f := by
  unfold lpick
  rw [List.length_map, List.map_filterMap]
  congr 1
  funext i
  rw [List.getElem?_map]
theorem ints_dat : ∀ {vs : List Value} {ns : List Int}, IntsAre vs ns → DatAll J vs (ns.map Dat.int)
  | _, _, .nil => .nil
  | _, _, .cons a t r => .cons (.int _ _) (ints_dat r)
theorem ex_sum_step (S : Site K p loose mean mg mb A h₀ L k) (B : Blt K env "sum") (hv : VarAt env L m I x (.ref l)) (hl : h₀.IsList l vs.toArray) (hi : IntsAre vs ns) (h1 : Ex prog w A env h₀ L m I e1 (.int a)) (h2 : Ex prog w A env h₀ L m I e2 (.int b)) (hb : b ≠ 0) (hz : vs.length ≤ sizeLine)
    (hxd : (x == ("__debug__" : PySem.Str)) = false := by decide) (hsub : SliceEq (.Slice (some e1) none (some e2) sp) := by unfold SliceEq; intros; exact ⟨_, by with_unfolding_all rfl⟩)
    (he : starEach [.Subscript (.Name x xp) (.Slice (some e1) none (some e2) sp) sq] env = (false, eval (.Subscript (.Name x xp) (.Slice (some e1) none (some e2) sp) sq) env) :: starEach [] env := by rfl)
    (hc : eval (.Call (.Name "sum" np) [.Subscript (.Name x xp) (.Slice (some e1) none (some e2) sp) sq] [] pos) env = (do callWith pos (← eval (.Name "sum" np) env) [] (backTo pos (starEach [.Subscript (.Name x xp) (.Slice (some e1) none (some e2) sp) sq] env)) (backToKw pos (keywordEach [] env))) := by rfl) :
    Ex prog w A env h₀ L m I (.Call (.Name "sum" np) [.Subscript (.Name x xp) (.Slice (some e1) none (some e2) sp) sq] [] pos) (.int (lpick ns (some a) none (some b)).sum) := by
  intro J s Q E hs F N h
  refine Call_ (name_builtin S F B.ns boot_sum (by decide) ?_ B.g B.b B.k B.kind (by decide)) hc
  refine callWith_method1 (spliced_more (Subscript_ (name_at hv hs F N ?_ B.k hxd)) he) he
  refine wpAny_Slice ((PartOk.some h1).go hs F N fun v1 h2' tk2 F2 N2 p1 => PartOk.none.go hs F2 N2 fun v2 h3 tk3 F3 N3 p2 => (PartOk.some h2).go hs F3 N3 fun v3 h4 tk4 F4 N4 p3 => ?_)
  obtain ⟨ops, hsub'⟩ := hsub l h4.objs.size
  have hl4 : h4.IsList l vs.toArray := by obtain ⟨o, e, r⟩ := hl; exact ⟨o, F4.keep _ _ e, r⟩
  refine kmk_slice3_lit (s := { s with heap := h4, toks := tk4 }) F4 N4 hl4 p1 p2 p3 (by simpa using hb) (zs := lpick vs (some a) none (some b)) ?_ (fun D2 h5 F5 N5 lt => ?_) hsub' (fun _ => rfl) (by simpa using hz)
  · simp [slicePick, lpick]
  refine spliced_none ?_
  have hN : News h₀ L h5 ((D2, PySem.W.listOf (lpick vs (some a) none (some b)).toArray 0) :: J) := N5
  have D0 : DatAll J vs (ns.map Dat.int) := ints_dat hi
  have D1 : DatAll J (lpick vs (some a) none (some b)) ((lpick ns (some a) none (some b)).map Dat.int) := by
    rw [← lpick_map]
    have hlen := D0.length
    unfold lpick
    rw [hlen]
    exact pick_all D0 _
  refine sumK S.hd F5 hN (News.isList hN List.mem_cons_self) (ints_of D1) fun h6 tk6 t6 F6 N6 => ?_
  exact h _ [] _ _ F6 (fun p hp => N6 p (List.mem_cons.mpr (.inr hp))) Off.nil (.int _ _)
theorem var_comp (h : VarAt env L m n x v) (k1 : env.kindOf x = some .cell) (k2 : ∀ C, (compEnvC scope cl C env).kindOf x = some .cell) (k3 : cl.lookup x = env.cells.lookup x) (C : Addr) : VarAt (compEnvC scope cl C env) L m n x v := by
  cases h with
  | loc h1 h2 h3 => rw [k1] at h2; cases h2
  | cell c o h1 h2 h3 h4 => exact .cell c o (k2 C) (k3.trans h2) h3 h4
  | comp oC m₂ h1 h2 h3 h4 => rw [k1] at h1; cases h1
end
end Mine
end
section
/-! part Sp -/
open PySem PySem.W PyProof.Rows PySem.Spec PySem.Calls PyProof.V
set_option maxRecDepth 100000
namespace Mine
/-- the sides of the three letters -/
def sdOf (lab : List PySem.Str) : List (List PySem.Str) := [lawPairs lab (lab.getD 0 dot), lawPairs lab (lab.getD 1 dot), lawPairs lab (lab.getD 2 dot)]
def runOf (lab : List PySem.Str) (xs : List Nat) : List PySem.Str := palRun lab (sdOf lab) nil₀ xs.reverse
def headOf (lab : List PySem.Str) (xs : List Nat) (k : Nat) : PySem.Str := (runOf lab (xs.take k)).getLastD nil₀
def tailOf (lab : List PySem.Str) (xs : List Nat) (k : Nat) : PySem.Str := (runOf lab xs).reverse.getD k nil₀
def pastOf (xs : List Nat) (sz : List Int) (k : Nat) : List Int := ((List.range k).filter fun n => xs.getD n 9 == xs.getD k 9).map fun n => sz.getD n 0
def stepOf (xs : List Nat) (sz : List Int) (k : Nat) : Int := if (pastOf xs sz k).isEmpty then 2 * sz.getD k 0 + 1 else 2 * sz.getD k 0 - (pastOf xs sz k).getLastD 0
def szOf (xs : List Nat) : Nat → List Int
  | 0 => [0]
  | k + 1 => szOf xs k ++ [stepOf xs (szOf xs k) k]
def lineOf (lab : List PySem.Str) (xs : List Nat) (k : Nat) : List PySem.Str := (Txt.split (headOf lab xs k) dot).drop 1 ++ [lab.getD (xs.getD k 9) dot]
def mirOf (xs : List Nat) (k : Nat) : List Int := [0, 1] ++ (pastOf xs (szOf xs k) k).map (· + 2)
def tabOf (lab : List PySem.Str) (xs : List Nat) (k : Nat) : List PySem.Str := ((xs.take (k + 1)).reverse).flatMap fun x => (sdOf lab).getD x []
def loudOf (lab : List PySem.Str) (xs : List Nat) : PySem.Str := S' " " ++ Txt.upper (headOf lab xs 5) ++ S' "\n"
def lessArgs (lab : List PySem.Str) : List PySem.Str := [Txt.mul (lab.getD 0 dot) 2, Txt.item (lab.getD 1 dot) 0, S' " ", nil₀]
def lessText (lab : List PySem.Str) : PySem.Str := Txt.mul (lab.getD 0 dot) 3 ++ S' " "

structure StepOk (lab : List PySem.Str) (xs : List Nat) (k : Nat) : Prop where
  pal : PalOk lab (sdOf lab) nil₀ (xs.take k).reverse
  len : (headOf lab xs k).length ≤ 1000
  sz : 0 ≤ (szOf xs k).getD k 0 ∧ (szOf xs k).getD k 0 ≤ 1000
  closed : ∃ mx j, RowOk (lineOf lab xs k) (mirOf xs k) mx j ∧ [nil₀] ++ (lineOf lab xs k ++ ((lineOf lab xs k).take j).reverse) = Txt.split (headOf lab xs (k + 1)) dot
  sok : ∀ x ∈ Txt.split (headOf lab xs (k + 1)) dot, PyData.strOk x = true
  rep : RepOk (tailOf lab xs (k + 1)) (tabOf lab xs k)
  repLen : (repl (tailOf lab xs (k + 1)) (tabOf lab xs k)).length ≤ 10000
  eq : repl (tailOf lab xs (k + 1)) (tabOf lab xs k) ++ headOf lab xs (k + 1) = headOf lab xs 5
structure WordOk (a b c : PySem.Str) (xs : List Nat) : Prop where
  la : a.length ≤ 10
  lb : b.length ≤ 10
  lc : c.length ≤ 10
  step : ∀ k < 5, StepOk [a, b, c] xs k
  pal5 : PalOk [a, b, c] (sdOf [a, b, c]) nil₀ xs.reverse
  len5 : (headOf [a, b, c] xs 5).length ≤ 1000
  up : (Txt.upper (headOf [a, b, c] xs 5)).length ≤ 1000
  loud : RepOk (loudOf [a, b, c] xs) (tabOf [a, b, c] xs 4)
  loudE : repl (loudOf [a, b, c] xs) (tabOf [a, b, c] xs 4) = loudOf [a, b, c] xs
  lessL : (lessText [a, b, c]).length ≤ 1000 ∧ 1 ≤ b.length
  less : RepOk (lessText [a, b, c]) (lessArgs [a, b, c])
  lessE : repl (lessText [a, b, c]) (lessArgs [a, b, c]) = b
  so : ∀ x ∈ [headOf [a, b, c] xs 5, loudOf [a, b, c] xs, b], PyData.strOk x = true
  judged : JudgedOk a b c
end Mine
end
section
/-! part FwU -/
open PySem PySem.W PyProof.Rows PySem.Spec PySem.Calls PyProof.V
set_option maxRecDepth 100000
namespace Mine
section
variable {prog : Program} {w : World} {K : Frag} {p : Program} {loose : List PySem.Str} {mean : ExcName → Option Value} {mg mb : Mp} {A : Around} {env : Env} {h₀ : Heap} {L C D : Addr} {m m' : Mp} {I I₀ J P n n' nw : Led} {ρ ρ' ρc ρf : List (PySem.Str × Dat)} {out items ds ds2 : List Dat} {s₀ s : Shared} {e e1 e2 elt iter iter2 : PySem.Expr} {d r : Dat} {scope : Scope} {cl : List (PySem.Str × Addr)} {pos np ap : Pos} {k : Nat} {a b : Int} {pl : Sem Bool} {x y : PySem.Str} {v : Value}
variable {body rest orelse : List Stmt} {Nx Nx' : Mp → Led → Prop}

/-- and a scalar is known beside it -/
theorem Sto.own_sc (st : Sto env L m y v n n' m') (O : OwnL env L m n I x ds ρ) {hp : Heap} (N : News h₀ L hp (n ++ I)) (hy : ((ρ.map (·.1)).all fun z => z != y) = true) (hx : (x != y) = true) (Dv : ∀ K, DatIn K v d) : OwnL env L m' n' I x ds ((y, d) :: ρ) := by
  obtain ⟨a, ys, k, n₀, g1, g2, g3, g4, g5, g6⟩ := O
  have hxy : x ≠ y := by simpa using hx
  rcases st with ⟨h1, h2, rfl, rfl⟩ | ⟨h1, rfl, c, o, o', h2, hm, ⟨v₀, hd⟩, hd', rfl⟩
  · have st' : Sto env L m y v n₀ n₀ (upd m y v) := .inl ⟨h1, h2, rfl, rfl⟩
    refine ⟨a, ys, k, n₀, g1, g2, g3, ?_, g5, st'.vars g6 (fun q hq => N q (sub_right g2 q hq)) hy (Dv _)⟩
    cases g4 with
    | loc a1 a2 a3 => exact .loc a1 a2 (by simp [upd, hxy, a3])
    | cell c o a1 a2 a3 a4 => exact .cell c o a1 a2 a3 a4
    | comp oC m₂ a1 a2 a3 a4 => exact .comp oC m₂ a1 a2 a3 a4
  · obtain ⟨o0, v0, hm0, hd0⟩ := g6.c y c h2
    have N0 : News h₀ L hp (n₀ ++ I) := fun q hq => N q (sub_right g2 q hq)
    have st' : Sto env L m' y v n₀ (putc c o' n₀) m' := .inr ⟨h1, rfl, c, o0, o', h2, hm0, ⟨_, hd0⟩, hd', rfl⟩
    have hac : (@Ne Nat a c) := fun e => g3 (c, o0) (List.mem_append.mpr (.inl hm0)) e.symm
    refine ⟨a, ys, k, putc c o' n₀, putc_mem g1 hac, fun q hq => ?_, fun q hq => ?_, ?_, ?_, st'.vars g6 N0 hy (Dv _)⟩
    · rcases putc_of hq with rfl | ⟨hq, hne⟩
      · exact putc_new hm
      · exact putc_mem (g2 q hq) hne
    · rcases List.mem_append.mp hq with hq | hq
      · rcases putc_of hq with rfl | ⟨hq, hne⟩
        · exact g3 (c, o0) (List.mem_append.mpr (.inl hm0))
        · exact g3 q (List.mem_append.mpr (.inl hq))
      · exact g3 q (List.mem_append.mpr (.inr hq))
    · have uniq : ∀ q ∈ n₀ ++ I, q.1 = c → q.2 = o0 := fun q hq e => by
        have z := (N0 q hq).1
        rw [e] at z
        have z2 := (N0 (c, o0) (List.mem_append.mpr (.inl hm0))).1
        rw [z] at z2; cases z2; rfl
      have mv : ∀ q ∈ n₀ ++ I, q.1 ≠ c → q ∈ putc c o' n₀ ++ I := fun q hq hne => by
        rcases List.mem_append.mp hq with h | h
        · exact List.mem_append.mpr (.inl (putc_mem h hne))
        · exact List.mem_append.mpr (.inr h)
      cases g4 with
      | loc a1 a2 a3 => exact .loc a1 a2 a3
      | cell c2 o2 a1 a2 a3 a4 =>
        refine .cell c2 o2 a1 a2 (mv _ a3 fun e => ?_) a4
        have e' : c2 = c := e
        subst e'
        exact hxy (g6.a _ _ _ a2 h2)
      | comp oC m₂ a1 a2 a3 a4 =>
        refine .comp oC m₂ a1 (mv _ a2 fun e => ?_) a3 a4
        have z := uniq _ a2 e
        obtain ⟨es, ep, hdd, _⟩ := a3
        have z' : oC = o0 := z
        rw [z', hd0] at hdd; cases hdd
    · refine (?_ : DatAll (putc c o' n₀ ++ I) ys ds)
      refine all_strip (sto_sub (C := c) fun q hq e => ?_) g5
      have z := (N0 q hq).1
      rw [e] at z
      have z2 := (N0 (c, o0) (List.mem_append.mpr (.inl hm0))).1
      rw [z] at z2; cases z2
      exact cell_not_seq hd0

end
end Mine
end
section
/-! part FnH -/
open PySem PySem.W PyProof.Rows PySem.Spec PySem.Calls PyProof.V
set_option maxRecDepth 100000
set_option maxHeartbeats 8000000
namespace Mine
variable {w : World} {mean : ExcName → Option Value} {mg mb : Mp}

/-- the def at this address, whatever its body is called: it answers True -/
def LawAt (w : World) (mean : ExcName → Option Value) (mg mb : Mp) (q : Addr) (k : Nat) : Prop :=
  ∀ {name qual : PySem.Str} {params : Arguments} {body : List Stmt} {scope : Scope} {dV kV doc pm cdv ct oc : Value} {an od : Option Addr} {osl : Array (Option Value)}, (KK w).lookup q = some ⟨oc, od, .func (fnOf name qual params body scope dV kV doc pm an cdv ct), osl⟩ →
  ∀ (qual' : PySem.Str) (f' : Addr) (cdv' : Value) (A : Around) (h₀ : Heap) (L : Addr) (I n : Led) (m : Mp) (l : Addr) (vs : List Value) (ns : List Int), Site (KK w) vw ls mean mg mb A h₀ L k → VC (envOfC qual' scope L f' cdv') L m n I [] →
    VarAt (envOfC qual' scope L f' cdv') L m (n ++ I) (Str.ofString "script") (.ref l) → h₀.IsList l vs.toArray → IntsAre vs ns → ns.length ≤ 63 →
    Blk prog w A (envOfC qual' scope L f' cdv') h₀ L I (.bool true) body m n NoNx
theorem law_enter {q : Addr} {k : Nat} {name qual : PySem.Str} {params : Arguments} {body : List Stmt} {scope : Scope} {dV kV doc pm cdv ct oc : Value} {an od : Option Addr} {osl : Array (Option Value)}
    (ho : (KK w).lookup q = some ⟨oc, od, .func (fnOf name qual params body scope dV kV doc pm an cdv ct), osl⟩)
    (hb : ∀ (qual' : PySem.Str) (f' : Addr) (cdv' : Value) (A : Around) (h₀ : Heap) (L : Addr) (I n : Led) (m : Mp) (l : Addr) (vs : List Value) (ns : List Int), Site (KK w) vw ls mean mg mb A h₀ L k → VC (envOfC qual' scope L f' cdv') L m n I [] →
      VarAt (envOfC qual' scope L f' cdv') L m (n ++ I) (Str.ofString "script") (.ref l) → h₀.IsList l vs.toArray → IntsAre vs ns → ns.length ≤ 63 →
      Blk prog w A (envOfC qual' scope L f' cdv') h₀ L I (.bool true) body m n NoNx) : LawAt w mean mg mb q k := by
  intro name' qual2 params' body' scope' dV' kV' doc' pm' cdv2 ct' oc' an' od' osl' ho'
  rw [ho] at ho'
  have e1 := Option.some.inj ho'
  have e2 := congrArg Obj.data e1
  have e3 : fnOf name qual params body scope dV kV doc pm an cdv ct = fnOf name' qual2 params' body' scope' dV' kV' doc' pm' an' cdv2 ct' := by
    injection e2
  have e4 : scope = scope' := congrArg FuncData.scope e3
  have e5 : body = body' := by
    have := congrArg FuncData.body e3
    injection this
  subst e4 e5
  exact hb

theorem own_names (w : World) {env : Env} (hg : env.globals = mainGlobals) (hk : env.scope.kind = .function) (hx : env.kindOf (Str.ofString "_law_names") = some .globalImplicit) : Own (KK w) env (Str.ofString "_law_names") 85 :=
  ⟨by with_unfolding_all rfl, by with_unfolding_all rfl, hg, hk, hx, by decide⟩
theorem own_pairs (w : World) {env : Env} (hg : env.globals = mainGlobals) (hk : env.scope.kind = .function) (hx : env.kindOf (Str.ofString "_law_pairs") = some .globalImplicit) : Own (KK w) env (Str.ofString "_law_pairs") 90 :=
  ⟨by with_unfolding_all rfl, by with_unfolding_all rfl, hg, hk, hx, by decide⟩
theorem own_pals (w : World) {env : Env} (hg : env.globals = mainGlobals) (hk : env.scope.kind = .function) (hx : env.kindOf (Str.ofString "_law_pals") = some .globalImplicit) : Own (KK w) env (Str.ofString "_law_pals") 97 :=
  ⟨by with_unfolding_all rfl, by with_unfolding_all rfl, hg, hk, hx, by decide⟩
theorem own_closed (w : World) {env : Env} (hg : env.globals = mainGlobals) (hk : env.scope.kind = .function) (hx : env.kindOf (Str.ofString "_law_closed") = some .globalImplicit) : Own (KK w) env (Str.ofString "_law_closed") 102 :=
  ⟨by with_unfolding_all rfl, by with_unfolding_all rfl, hg, hk, hx, by decide⟩
theorem own_climbed (w : World) {env : Env} (hg : env.globals = mainGlobals) (hk : env.scope.kind = .function) (hx : env.kindOf (Str.ofString "_law_climbed") = some .globalImplicit) : Own (KK w) env (Str.ofString "_law_climbed") 107 :=
  ⟨by with_unfolding_all rfl, by with_unfolding_all rfl, hg, hk, hx, by decide⟩
theorem own_judged (w : World) {env : Env} (hg : env.globals = mainGlobals) (hk : env.scope.kind = .function) (hx : env.kindOf (Str.ofString "_law_judged") = some .globalImplicit) : Own (KK w) env (Str.ofString "_law_judged") 112 :=
  ⟨by with_unfolding_all rfl, by with_unfolding_all rfl, hg, hk, hx, by decide⟩

def shiftOf (ns : List Int) (k : Nat) : Int := (lpick ns (some (k : Int)) none (some 5)).sum
def kOf (k : Nat) : Int := [(0 : Int), 1, 0, 2, 1].getD k 0
def spell (ns : List Int) (k : Nat) : Nat := ((kOf k + shiftOf ns k).fmod 3).toNat
def wordOf (ns : List Int) : List Nat := [spell ns 0, spell ns 1, spell ns 2, spell ns 3, spell ns 4]
theorem spell_int (ns : List Int) (k : Nat) : ((spell ns k : Nat) : Int) = (kOf k + shiftOf ns k).fmod 3 := by
  unfold spell
  exact Int.toNat_of_nonneg (Int.fmod_nonneg_of_pos _ (by decide))
theorem spell_lt (ns : List Int) (k : Nat) : spell ns k < 3 := by
  have h := Int.fmod_lt_of_pos (kOf k + shiftOf ns k) (b := 3) (by decide)
  have := spell_int ns k
  omega
theorem word_lt (ns : List Int) : ∀ x ∈ wordOf ns, x < 3 := fun x hx => by
  simp only [wordOf, List.mem_cons, List.mem_nil_iff, or_false] at hx
  rcases hx with rfl | rfl | rfl | rfl | rfl <;> exact spell_lt _ _
def pickOf (ns : List Int) (k : Nat) : Int := (shiftOf ns k).fdiv 3
/-- what the walk asks of the plain law -/
structure Plain : Prop where
  l1 : ∀ p, (signs₁ p).length = 65
  l2 : ∀ p q, (signs₂ p q).length = 64
  word : ∀ p q r xs, xs.length = 5 → (∀ x ∈ xs, x < 3) → WordOk (first₀ p) (second₀ p q ++ first₀ p) (third₀ p q r ++ second₀ p q ++ first₀ p) xs
theorem noPy (a : Int) : Builtin.divisionGoesByPylong a 3 = false := by
  unfold Builtin.divisionGoesByPylong
  have : decide ((if ((3 : Int) == 0) = true then 0 else (3 : Int).natAbs.log2 / 30 + 1) > 300) = false := by decide +kernel
  simp only [this, Bool.false_and]

theorem five {i : Nat} (h : i < 5) : i = 0 ∨ i = 1 ∨ i = 2 ∨ i = 3 ∨ i = 4 := by omega
theorem k_at {i : Nat} (h : i < 5) : ([Dat.int 0, .int 1, .int 0, .int 2, .int 1])[((i : Nat) : Int).toNat]? = some (.int (kOf i)) := by
  rcases five h with rfl | rfl | rfl | rfl | rfl <;> rfl
theorem sh_at (ns : List Int) {i : Nat} (h : i < 5) : ([Dat.int (shiftOf ns 0), .int (shiftOf ns 1), .int (shiftOf ns 2), .int (shiftOf ns 3), .int (shiftOf ns 4)])[((i : Nat) : Int).toNat]? = some (.int (shiftOf ns i)) := by
  rcases five h with rfl | rfl | rfl | rfl | rfl <;> rfl
theorem map_at {α β : Type} (g : α → β) (l : List α) (e : α) {i : Nat} (h : i < l.length) : (l.map g)[((i : Nat) : Int).toNat]? = some (g (l.getD i e)) := by
  rw [Int.toNat_natCast, List.getElem?_map, List.getElem?_eq_getElem h, List.getD_eq_getElem?_getD, List.getElem?_eq_getElem h]; rfl
def hdsOf (lab : List PySem.Str) (xs : List Nat) : List PySem.Str := (List.range 6).map (headOf lab xs)
theorem hd_at (lab : List PySem.Str) (xs : List Nat) {i : Nat} (h : i < 6) : (dstrs (hdsOf lab xs))[((i : Nat) : Int).toNat]? = some (.str (headOf lab xs i)) := by
  rw [Int.toNat_natCast, dstrs, hdsOf, List.map_map, List.getElem?_map, List.getElem?_range h]; rfl
theorem tl_at (lab : List PySem.Str) (xs : List Nat) {i : Nat} (h : i < xs.length + 1) : (dstrs (runOf lab xs).reverse)[((i : Nat) : Int).toNat]? = some (.str (tailOf lab xs i)) :=
  map_at Dat.str _ nil₀ (by rw [List.length_reverse, runOf, palRun_len, List.length_reverse]; exact h)
theorem run_ne (lab : List PySem.Str) (xs : List Nat) : runOf lab xs ≠ [] := fun h => by
  have := congrArg List.length h
  rw [runOf, palRun_len] at this
  simp at this
theorem last_of {l : List PySem.Str} (h : l ≠ []) : (dstrs l)[((-1 : Int) + (dstrs l).length).toNat]? = some (.str (l.getLastD nil₀)) := by
  obtain ⟨pre, t, rfl⟩ : ∃ pre t, l = pre ++ [t] := ⟨l.dropLast, l.getLast h, (List.dropLast_concat_getLast h).symm⟩
  rw [last_at]; simp
theorem tail_zero (lab : List PySem.Str) {xs : List Nat} (h : xs.length = 5) : tailOf lab xs 0 = headOf lab xs 5 := by
  have ht : xs.take 5 = xs := List.take_of_length_le (by omega)
  unfold tailOf headOf
  rw [ht]
  have hne := run_ne lab xs
  obtain ⟨pre, t, e⟩ : ∃ pre t, runOf lab xs = pre ++ [t] := ⟨_, _, (List.dropLast_concat_getLast hne).symm⟩
  rw [e]; simp
theorem sz_len (xs : List Nat) : ∀ k, (szOf xs k).length = k + 1
  | 0 => rfl
  | k + 1 => by unfold szOf; rw [List.length_append, sz_len xs k]; rfl
theorem past_eq (xs : List Nat) (sz : List Int) (j : Nat) : ((rng j).filter fun d => ((xs.getD (unI d).toNat 9 : Nat) : Int) == ((xs.getD j 9 : Nat) : Int)).map (fun d => Dat.int (sz.getD (unI d).toNat 0)) = (pastOf xs sz j).map Dat.int := by
  unfold pastOf rng
  rw [List.filter_map, List.map_map, List.map_map]
  have e : ((fun d => ((xs.getD (unI d).toNat 9 : Nat) : Int) == ((xs.getD j 9 : Nat) : Int)) ∘ fun i : Nat => Dat.int (i : Int)) = fun n => xs.getD n 9 == xs.getD j 9 := by
    funext n
    show (((xs.getD (unI (Dat.int (n : Int))).toNat 9 : Nat) : Int) == ((xs.getD j 9 : Nat) : Int)) = _
    have : (unI (Dat.int (n : Int))).toNat = n := Int.toNat_natCast n
    rw [this, Bool.eq_iff_iff]
    simp only [beq_iff_eq]
    omega
  rw [e]
  congr 1
theorem last_int {l : List Int} (h : l ≠ []) : (l.map Dat.int)[((-1 : Int) + (l.map Dat.int).length).toNat]? = some (.int (l.getLastD 0)) := by
  obtain ⟨pre, t, rfl⟩ : ∃ pre t, l = pre ++ [t] := ⟨l.dropLast, l.getLast h, (List.dropLast_concat_getLast h).symm⟩
  rw [List.length_map, List.length_append, List.length_singleton]
  have : ((-1 : Int) + ((pre.length + 1 : Nat) : Int)).toNat = pre.length := by omega
  rw [this]; simp
theorem past_len (xs : List Nat) (sz : List Int) (j : Nat) : (pastOf xs sz j).length ≤ j := by
  unfold pastOf
  rw [List.length_map]
  exact Nat.le_trans (List.length_filter_le ..) (by rw [List.length_range]; exact Nat.le_refl _)
theorem pairs_even (ns : List PySem.Str) (nx : PySem.Str) : (lawPairs ns nx).length % 2 = 0 := by
  unfold lawPairs
  induction ns with
  | nil => simp
  | cons a r ih =>
    rw [List.flatMap_cons, List.length_append]
    have : (if (a != nx) = true then sides2 nx a else []).length % 2 = 0 := by split <;> simp [sides2]
    omega
theorem side_facts (a b c : PySem.Str) (x : Nat) : ((sdOf [a, b, c]).getD x []).length ≤ 6 ∧ ((sdOf [a, b, c]).getD x []).length % 2 = 0 := by
  have h : ∀ nx, (lawPairs [a, b, c] nx).length ≤ 6 ∧ (lawPairs [a, b, c] nx).length % 2 = 0 := fun nx => ⟨Nat.le_trans (pairs_len _ _) (by simp), pairs_even _ _⟩
  match x with
  | 0 => exact h _
  | 1 => exact h _
  | 2 => exact h _
  | x + 3 => exact ⟨by simp [sdOf], by simp [sdOf]⟩
theorem flat_facts {α β : Type} (g : α → List β) (h : ∀ x, (g x).length ≤ 6 ∧ (g x).length % 2 = 0) : ∀ l : List α, (l.flatMap g).length ≤ 6 * l.length ∧ (l.flatMap g).length % 2 = 0
  | [] => by simp
  | a :: r => by
    have := flat_facts g h r
    have := h a
    rw [List.flatMap_cons, List.length_append, List.length_cons]
    omega
theorem tab_facts (a b c : PySem.Str) {xs : List Nat} (hx : xs.length = 5) (k : Nat) : (tabOf [a, b, c] xs k).length ≤ 30 ∧ (tabOf [a, b, c] xs k).length % 2 = 0 := by
  have := flat_facts (fun x => (sdOf [a, b, c]).getD x []) (side_facts a b c) (xs.take (k + 1)).reverse
  rw [List.length_reverse, List.length_take] at this
  unfold tabOf
  omega
theorem tab_eq (lab : List PySem.Str) (xs : List Nat) (k : Nat) : (dints ((xs.take (k + 1)).reverse)).flatMap (fun d => if (fun _ => true) d = true then (dstrs ((sdOf lab).getD (unI d).toNat [])).map ((fun _ d2 => d2) d) else []) = dstrs (tabOf lab xs k) := by
  unfold tabOf
  generalize (xs.take (k + 1)).reverse = l
  induction l with
  | nil => rfl
  | cons a r ih =>
    have e : (unI (Dat.int (a : Int))).toNat = a := Int.toNat_natCast a
    show (if true = true then (dstrs ((sdOf lab).getD (unI (Dat.int (a : Int))).toNat [])).map (fun d2 => d2) else []) ++ _ = _
    rw [if_pos rfl, e, List.flatMap_cons]
    show _ ++ (dints r).flatMap _ = _
    rw [ih]
    simp [dstrs]
theorem mir_eq (xs : List Nat) (j : Nat) : [Dat.int 0, .int 1] ++ ((pastOf xs (szOf xs j) j).map Dat.int).map (fun d => Dat.int (unI d + 2)) = (mirOf xs j).map Dat.int := by
  unfold mirOf
  simp [unI]
theorem mul_small {z : Int} (h0 : 0 ≤ z) (h1 : z ≤ 1000) : IntMulOk 2 z := by
  refine IntMulOk.of_le (m := 10) (n := 20) (by decide) ?_ (by decide)
  unfold Builtin.Int.intBits
  have hz : z.natAbs ≤ 1000 := by omega
  rcases Nat.eq_zero_or_pos z.natAbs with e | e
  · rw [e]; split <;> decide
  · have : z.natAbs.log2 < 10 := (Nat.log2_lt (by omega)).mpr (by omega)
    split <;> omega
end Mine
end
section
/-! part FnA -/
open PySem PySem.W PyProof.Rows PySem.Spec PySem.Calls PyProof.V
set_option maxRecDepth 100000
set_option maxHeartbeats 8000000
namespace Mine
variable {w : World} {mean : ExcName → Option Value} {mg mb : Mp}

abbrev lawRho (a b c : PySem.Str) (xs : List Nat) (ns : List Int) : List (PySem.Str × Dat) := [(Str.ofString "heads", .list (dstrs (hdsOf [a, b, c] xs))), (Str.ofString "tails", .list (dstrs (runOf [a, b, c] xs).reverse)), (Str.ofString "sides", .list ((sdOf [a, b, c]).map fun l => .list (dstrs l))), (Str.ofString "spelled", .list (dints xs)), (Str.ofString "labels", .list (dstrs [a, b, c])), (Str.ofString "shifts", .list [.int (shiftOf ns 0), .int (shiftOf ns 1), .int (shiftOf ns 2), .int (shiftOf ns 3), .int (shiftOf ns 4)])]
abbrev lawInv (env : Env) (L : Addr) (a b c : PySem.Str) (xs : List Nat) (ns : List Int) : Nat → Mp → Led → Led → Prop := fun j m n I' =>
  OwnL env L m n I' (Str.ofString "sizes") ((szOf xs j).map Dat.int) (lawRho a b c xs ns) ∧ (0 < j → VC env L m n I' [(Str.ofString "table", .list (dstrs (tabOf [a, b, c] xs (j - 1)))), (Str.ofString "heads", .list (dstrs (hdsOf [a, b, c] xs))), (Str.ofString "labels", .list (dstrs [a, b, c]))])

theorem law_walk (HP : Plain) : LawAt w mean mg mb 117 5 := by
  refine law_enter (k := 5) (ho := by with_unfolding_all rfl) ?_
  intro qual' f' cdv' A h₀ L I n m l vs ns S V hv hl hi hz
  have hvl : vs.length ≤ sizeLine := by
    have := (ints_dat (J := []) hi).length
    rw [List.length_map] at this
    rw [sizeLine_eq]; omega
  -- shifts
  refine blk_putv V ((ex_comp (by rfl) (comp1_is (cl := [(Str.ofString "script", L + 1)]) (ρf := []) (items := rng 5) (target := .Name (Str.ofString "at") _) (ifs := []) (f := fun d => .int (shiftOf ns (unI d).toNat)) (t := fun _ => true) (bs := fun d => [(Str.ofString "at", d)])
    (it_rangeN (n := 5) S (by with_unfolding_all rfl) rfl rfl rfl rfl (ex_int _ _) rfl (by decide)) rfl (by decide) (by rfl) (by decide) (by intro _; rfl) (fun C => Vars.nil) (fun d hd => takes_name (fun C => by rfl) (by rfl) (by rfl)) (fun d hd C q hq => by rw [List.mem_singleton.mp hq]; rfl) (fun d hd => .inl ⟨rfl, rfl⟩) (fun d hd _ C K hK VV => ?_) (by decide))).cast (d' := .list [.int (shiftOf ns 0), .int (shiftOf ns 1), .int (shiftOf ns 2), .int (shiftOf ns 3), .int (shiftOf ns 4)]) (by rfl)) (fun m n V => ?_) (.inr ⟨rfl, rfl⟩)
  · obtain ⟨i, hi', rfl⟩ := mem_rng hd
    refine ex_sum_step S ⟨by with_unfolding_all rfl, rfl, rfl, rfl, rfl⟩ ?_ hl hi (ex_name VV (.head _) rfl) (ex_int _ _) (by decide) hvl
    exact var_comp (hv.mono hK) (by rfl) (by intro _; rfl) (by rfl) C
  clear hv
  -- labels
  refine blk_putv V (ex_call (S.less (by decide)) (own_names w rfl rfl rfl) (fn_names (pickOf ns 0) (pickOf ns 1) (pickOf ns 2) (pickOf ns 3) (pickOf ns 4) (HP.l1 _) (HP.l2 _ _)) (args_cons' ((ex_comp (by rfl) (comp_map (cl := []) [] (fun d => .int ((unI d).fdiv 3)) V.v (it_list (items := [.int (shiftOf ns 0), .int (shiftOf ns 1), .int (shiftOf ns 2), .int (shiftOf ns 3), .int (shiftOf ns 4)]) S.hd (ex_name V.v (.head _) rfl)) rfl (fun _ h => nomatch h) trivial (fun d hd C K VV => ?_) (by rw [sizeLine_eq]; simp))).cast (d' := .list [.int (pickOf ns 0), .int (pickOf ns 1), .int (pickOf ns 2), .int (pickOf ns 3), .int (pickOf ns 4)]) (by rfl)) args_nil')) (fun m n V => ?_) (.inr ⟨rfl, rfl⟩)
  · have : ∃ z, d = .int z := by
      simp only [List.mem_cons, List.mem_nil_iff, or_false] at hd
      rcases hd with rfl | rfl | rfl | rfl | rfl <;> exact ⟨_, rfl⟩
    obtain ⟨z, rfl⟩ := this
    exact ex_div_int (ex_name VV (.head _) rfl) (ex_int _ _) (by decide) (noPy z)
  have hlab : lawNames (pickOf ns 0) (pickOf ns 1) (pickOf ns 2) = [first₀ (pickOf ns 0), second₀ (pickOf ns 0) (pickOf ns 1) ++ first₀ (pickOf ns 0), third₀ (pickOf ns 0) (pickOf ns 1) (pickOf ns 2) ++ second₀ (pickOf ns 0) (pickOf ns 1) ++ first₀ (pickOf ns 0)] := rfl
  have W := HP.word (pickOf ns 0) (pickOf ns 1) (pickOf ns 2) (wordOf ns) rfl (word_lt ns)
  have hxl := word_lt ns
  rw [hlab] at V
  generalize third₀ (pickOf ns 0) (pickOf ns 1) (pickOf ns 2) ++ second₀ (pickOf ns 0) (pickOf ns 1) ++ first₀ (pickOf ns 0) = c at V W
  generalize second₀ (pickOf ns 0) (pickOf ns 1) ++ first₀ (pickOf ns 0) = b at V W
  generalize first₀ (pickOf ns 0) = a at V W
  clear hlab
  -- spelled
  refine blk_putv V ((ex_comp (by rfl) (comp_map (cl := [(Str.ofString "shifts", L + 3)]) [(Str.ofString "shifts", .list [.int (shiftOf ns 0), .int (shiftOf ns 1), .int (shiftOf ns 2), .int (shiftOf ns 3), .int (shiftOf ns 4)])] (fun d => .int ((kOf (unI d).toNat + shiftOf ns (unI d).toNat).fmod 3)) V.v
    (it_rangeN (n := 5) S (by with_unfolding_all rfl) rfl rfl rfl rfl (ex_int _ _) rfl (by decide)) rfl (mem1 (.tail _ (.head _))) ⟨⟨rfl, fun _ => rfl, rfl⟩, trivial⟩ (fun d hd C K VV => ?_) (by decide))).cast (d' := .list (dints (wordOf ns))) (by
      show Dat.list [Dat.int ((kOf 0 + shiftOf ns 0).fmod 3), .int ((kOf 1 + shiftOf ns 1).fmod 3), .int ((kOf 2 + shiftOf ns 2).fmod 3), .int ((kOf 3 + shiftOf ns 3).fmod 3), .int ((kOf 4 + shiftOf ns 4).fmod 3)] = Dat.list [Dat.int ((spell ns 0 : Nat) : Int), .int ((spell ns 1 : Nat) : Int), .int ((spell ns 2 : Nat) : Int), .int ((spell ns 3 : Nat) : Int), .int ((spell ns 4 : Nat) : Int)]
      rw [spell_int, spell_int, spell_int, spell_int, spell_int])) (fun m n V => ?_) (.inr ⟨rfl, rfl⟩)
  · obtain ⟨i, hi', rfl⟩ := mem_rng hd
    have hA : ∀ pos, Ex prog w A _ h₀ L _ K (.Name (Str.ofString "at") pos) (.int (i : Int)) := fun pos => ex_name (pos := pos) VV (.head _) rfl
    exact ex_mod_int (ex_add_int (ex_item (k := 0) (ds := [.int 0, .int 1, .int 0, .int 2, .int 1]) (ex_list (args_cons' (ex_int _ _) (args_cons' (ex_int _ _) (args_cons' (ex_int _ _) (args_cons' (ex_int _ _) (args_cons' (ex_int _ _) args_nil'))))) (by decide)) (hA _) (by omega) (k_at hi') (by omega)) (ex_item (k := 0) (ex_name VV (.tail _ (.head _)) rfl) (hA _) (by omega) (sh_at ns hi') (by omega))) (ex_int _ _) (by decide)
  have hx5 : (wordOf ns).length = 5 := rfl
  generalize wordOf ns = xs at V W hxl hx5
  have hlen10 : ∀ nm ∈ [a, b, c], nm.length ≤ 1000 := fun x hx => by
    have := W.la; have := W.lb; have := W.lc
    simp only [List.mem_cons, List.mem_nil_iff, or_false] at hx
    rcases hx with rfl | rfl | rfl <;> omega
  -- sides
  refine blk_putv V ((ex_comp (by rfl) (comp_map (cl := [(Str.ofString "labels", L + 4)]) [(Str.ofString "labels", .list (dstrs [a, b, c]))] (fun d => .list (dstrs (lawPairs [a, b, c] ([a, b, c].getD (unI d).toNat dot)))) V.v
    (it_rangeN (n := 3) S (by with_unfolding_all rfl) rfl rfl rfl rfl (ex_int _ _) rfl (by decide)) rfl (mem1 (.tail _ (.head _))) ⟨⟨rfl, fun _ => rfl, rfl⟩, trivial⟩ (fun d hd C K VV => ?_) (by decide))).cast (d' := .list ((sdOf [a, b, c]).map fun l => .list (dstrs l))) (by rfl)) (fun m n V => ?_) (.inr ⟨rfl, rfl⟩)
  · obtain ⟨i, hi', rfl⟩ := mem_rng hd
    exact ex_call (S.less (by decide)) (own_pairs w rfl rfl rfl) (fn_pairs [a, b, c] (i : Int) _ (by omega) (by
      have : i = 0 ∨ i = 1 ∨ i = 2 := by omega
      rcases this with rfl | rfl | rfl <;> rfl) (by omega) (by simp) hlen10) (args_cons' (ex_name VV (.tail _ (.head _)) rfl) (args_cons' (ex_name VV (.head _) rfl) args_nil'))
  -- tails
  have hrl : (dstrs (runOf [a, b, c] xs)).length = 6 := by rw [dstrs, List.length_map, runOf, palRun_len, List.length_reverse, hx5]
  refine blk_putv V ((ex_slice (ex_call (S.less (by decide)) (own_pals w rfl rfl rfl) (fn_pals [a, b, c] (sdOf [a, b, c]) xs W.pal5 (by omega)) (args_cons' (ex_name V.v (.tail _ (.tail _ (.head _))) rfl) (args_cons' (ex_name V.v (.head _) rfl) (args_cons' (ex_name V.v (.tail _ (.head _)) rfl) args_nil')))) .none .none (.some (ex_neg_int (ex_int _ _))) (by decide) (by show (dstrs (runOf [a, b, c] xs)).length ≤ _; rw [hrl, sizeLine_eq]; decide) (lpick_rev _)).cast (d' := .list (dstrs (runOf [a, b, c] xs).reverse)) (by show Dat.list (List.map Dat.str (runOf [a, b, c] xs)).reverse = Dat.list (List.map Dat.str (runOf [a, b, c] xs).reverse); rw [List.map_reverse])) (fun m n V => ?_) (.inl ⟨rfl, rfl⟩)
  -- heads
  refine blk_putv V ((ex_add_list (ex_comp (by rfl) (comp_map (cl := [(Str.ofString "spelled", L + 5), (Str.ofString "sides", L + 6), (Str.ofString "labels", L + 4)]) [(Str.ofString "labels", .list (dstrs [a, b, c])), (Str.ofString "sides", .list ((sdOf [a, b, c]).map fun l => .list (dstrs l))), (Str.ofString "spelled", .list (dints xs))] (fun d => .str (headOf [a, b, c] xs (unI d).toNat)) V.v
    (it_rangeN (n := 5) S (by with_unfolding_all rfl) rfl rfl rfl rfl (ex_int _ _) rfl (by decide)) rfl (mem3 (.tail _ (.tail _ (.tail _ (.head _)))) (.tail _ (.head _)) (.tail _ (.tail _ (.head _)))) ⟨⟨rfl, fun _ => rfl, rfl⟩, ⟨rfl, fun _ => rfl, rfl⟩, ⟨rfl, fun _ => rfl, rfl⟩, trivial⟩ (fun d hd C K VV => ?_) (by decide)))
    (ex_list (ds := [.str (headOf [a, b, c] xs 5)]) (args_cons' (ex_item (k := 0) (a := ((0 : Nat) : Int)) (ex_name V.v (.head _) rfl) (ex_int _ _) (by decide) ((tl_at [a, b, c] xs (i := 0) (by omega)).trans (by rw [tail_zero _ hx5])) (by decide)) args_nil') (by rw [sizeLine_eq]; simp)) (by rw [sizeLine_eq]; simp)).cast (d' := .list (dstrs (hdsOf [a, b, c] xs))) (by rfl)) (fun m n V => ?_) (.inl ⟨rfl, rfl⟩)
  · obtain ⟨i, hi', rfl⟩ := mem_rng hd
    have hr2 : (dstrs (runOf [a, b, c] (xs.take i))).length ≤ 6 := by rw [dstrs, List.length_map, runOf, palRun_len, List.length_reverse, List.length_take]; omega
    have hr3 : 1 ≤ (dstrs (runOf [a, b, c] (xs.take i))).length := by rw [dstrs, List.length_map, runOf, palRun_len]; omega
    exact ex_item_neg (ex_call (S.less (by decide)) (own_pals w rfl rfl rfl) (fn_pals [a, b, c] (sdOf [a, b, c]) (xs.take i) (W.step i hi').pal (by rw [List.length_take]; omega)) (args_cons' (ex_name VV (.tail _ (.head _)) rfl) (args_cons' (ex_name VV (.tail _ (.tail _ (.head _))) rfl) (args_cons' ((ex_slice (ex_name VV (.tail _ (.tail _ (.tail _ (.head _)))) rfl) .none (.some (ex_name VV (.head _) rfl)) .none (by decide) (by rw [dints, List.length_map, sizeLine_eq]; omega) (lpick_upto _ (by omega))).cast (by rw [Int.toNat_natCast, dints, dints, List.map_take])) args_nil')))) (ex_neg_int (ex_int _ _)) (by decide) (by show -((dstrs (runOf [a, b, c] (xs.take i))).length : Int) ≤ -1; omega) (last_of (run_ne _ _)) (by decide)
  -- sizes
  refine blk_new (ds := [.int 0]) V (args_cons' (ex_int _ _) args_nil') (by decide) (fun m n O => ?_) rfl (.inr ⟨rfl, rfl⟩)
  have hhl : (dstrs (hdsOf [a, b, c] xs)).length = 6 := by rw [dstrs, List.length_map, hdsOf, List.length_map, List.length_range]
  -- for at in range(5)
  refine blk_for (y := Str.ofString "at") (items := rng 5) (it2_rangeN (n := 5) S (by with_unfolding_all rfl) rfl rfl rfl rfl (ex_int _ _) rfl (by decide))
    (lawInv _ L a b c xs ns)
    (fun nw o => ⟨O.wide o, fun h => absurd h (by decide)⟩) (fun j m n I' ⟨O, _⟩ => O.vc.c) (.inr ⟨rfl, rfl⟩) rfl (fun I' j d hd hI m₁ n₁ n₂ m₂ v hp ⟨O1, _⟩ st N Dv => ?_) (fun nw m' n' ⟨O1, hV⟩ => ?_)
  · have hj : j < 5 := by
      have := (List.getElem?_eq_some_iff.mp hd).1
      rw [List.length_map, List.length_range] at this; exact this
    have hdx : d = .int (j : Int) := by
      rw [List.getElem?_map, List.getElem?_range hj] at hd
      exact (Option.some.inj hd).symm
    subst hdx
    have V := st.vars O1.vc N (by with_unfolding_all rfl) (Dv _)
    have O2 := st.own_sc O1 N (by with_unfolding_all rfl) (by with_unfolding_all rfl) Dv
    clear O1 O st N Dv hd
    have Wj := W.step j hj
    have hszl := sz_len xs j
    have hpl := past_len xs (szOf xs j) j
    -- past
    refine blk_put_compO V O2 ((comp_if (cl := [(Str.ofString "spelled", L + 5), (Str.ofString "sizes", L + 7), (Str.ofString "at", L + 2)]) [(Str.ofString "at", .int (j : Int)), (Str.ofString "sizes", .list ((szOf xs j).map Dat.int)), (Str.ofString "spelled", .list (dints xs))] (fun d => .int ((szOf xs j).getD (unI d).toNat 0)) (fun d => ((xs.getD (unI d).toNat 9 : Nat) : Int) == ((xs.getD j 9 : Nat) : Int)) V.v
      (it_rangeN (n := j) S (by with_unfolding_all rfl) rfl rfl rfl rfl (ex_name V.v (.head _) rfl) rfl (by omega)) rfl (mem3 (.head _) (.tail _ (.head _)) (.tail _ (.tail _ (.tail _ (.tail _ (.tail _ (.head _))))))) ⟨⟨rfl, fun _ => rfl, rfl⟩, ⟨rfl, fun _ => rfl, rfl⟩, ⟨rfl, fun _ => rfl, rfl⟩, trivial⟩ (fun d hd C K VV => ?_) (fun d hd _ C K VV => ?_) ?_).cast (past_eq xs (szOf xs j) j)) fun m n V O => ?_
    · obtain ⟨i, hi', rfl⟩ := mem_rng hd
      exact tr_eq_int (ex_item (k := 0) (ex_name VV (.tail _ (.tail _ (.tail _ (.head _)))) rfl) (ex_name VV (.head _) rfl) (by omega) (map_at (fun x : Nat => Dat.int (x : Int)) xs 9 (by omega)) (by omega)) (ex_item (k := 0) (ex_name VV (.tail _ (.tail _ (.tail _ (.head _)))) rfl) (ex_name VV (.tail _ (.head _)) rfl) (by omega) (map_at (fun x : Nat => Dat.int (x : Int)) xs 9 (by omega)) (by omega))
    · obtain ⟨i, hi', rfl⟩ := mem_rng hd
      exact ex_item (k := 0) (ex_name VV (.tail _ (.tail _ (.head _))) rfl) (ex_name VV (.head _) rfl) (by omega) (map_at Dat.int (szOf xs j) 0 (by omega)) (by omega)
    · rw [List.length_map, List.length_range, sizeLine_eq]; omega
    -- line
    obtain ⟨mx, jj, R, E⟩ := Wj.closed
    have hline : (Txt.split (headOf [a, b, c] xs j) dot).length ≤ 202 := by
      have := R.size
      unfold lineOf at this
      rw [List.length_append, List.length_drop, List.length_singleton] at this
      omega
    have hline' : (Txt.split (headOf [a, b, c] xs j) (Str.ofString ".")).length ≤ 202 := hline
    have hxj : xs.getD j 9 < 3 := by
      rw [List.getD_eq_getElem?_getD, List.getElem?_eq_getElem (by omega)]
      exact hxl _ (List.getElem_mem _)
    refine blk_putO V O ((ex_add_list (ex_slice (ex_split (ex_item (k := 0) (ex_name V.v (.tail _ (.tail _ (.tail _ (.head _)))) rfl) (ex_name V.v (.tail _ (.head _)) rfl) (by omega) (hd_at [a, b, c] xs (by omega)) (by omega)) (ex_str _ _) (by decide) (by have := Wj.len; rw [sizeLine_eq]; omega)) (.some (ex_int _ _)) .none .none (by decide) (by rw [List.length_map, sizeLine_eq]; omega) (lpick_from _ (by decide)))
      (ex_list (ds := dstrs [[a, b, c].getD (xs.getD j 9) dot]) (args_cons' (ex_item (k := 0) (ex_name V.v (.tail _ (.tail _ (.tail _ (.tail _ (.tail _ (.tail _ (.tail _ (.head _)))))))) rfl) (ex_item (k := 0) (ex_name V.v (.tail _ (.tail _ (.tail _ (.tail _ (.tail _ (.tail _ (.head _))))))) rfl) (ex_name V.v (.tail _ (.head _)) rfl) (by omega) (map_at (fun x : Nat => Dat.int (x : Int)) xs 9 (by omega)) (by omega)) (by omega) (map_at Dat.str [a, b, c] dot (by simpa using hxj)) (by omega)) args_nil') (by rw [sizeLine_eq]; simp)) (by rw [List.length_drop, List.length_map, sizeLine_eq]; simp; omega)).cast (d' := .list (dstrs (lineOf [a, b, c] xs j))) (by unfold lineOf dstrs; rw [List.map_append, List.map_drop]; rfl)) (fun m n V O => ?_) (.inl ⟨rfl, rfl⟩)
    -- if [''] + _law_closed(..) != ..
    have hla := Wj.len
    have hlb : (headOf [a, b, c] xs (j + 1)).length ≤ 1000 := by
      by_cases h4 : j + 1 < 5
      · exact (W.step (j + 1) h4).len
      · have : j + 1 = 5 := by omega
        rw [this]; exact W.len5
    have hR1 := R.size
    have hEl : (Txt.split (headOf [a, b, c] xs (j + 1)) dot).length ≤ 500 := by
      rw [← E]; simp; omega
    have hN : ∀ p1 p2 p3 p4, Ex prog w A _ h₀ L m (n ++ I') (.BinOp (.Name (Str.ofString "at") p1) .Add (.Constant (.int 1) p4 p2) p3) (.int ((j + 1 : Nat) : Int)) := fun p1 p2 p3 p4 => (ex_add_int (ex_name V.v (.tail _ (.tail _ (.head _))) rfl) (ex_int _ _)).cast (by simp)
    refine blk_if_ret (b := false) ((tr_ne_list (t := true) (ds := dstrs (Txt.split (headOf [a, b, c] xs (j + 1)) dot)) (es := dstrs (Txt.split (headOf [a, b, c] xs (j + 1)) dot))
      ((ex_add_list (ex_list (ds := dstrs [nil₀]) (args_cons' (ex_str _ _) args_nil') (by decide)) (ex_call (S.less (by decide)) (own_closed w rfl rfl rfl) (fn_closed (lineOf [a, b, c] xs j) (mirOf xs j) mx jj R) (args_cons' (ex_name V.v (.head _) rfl) (args_cons' ((ex_add_list (ex_list (ds := [.int 0, .int 1]) (args_cons' (ex_int _ _) (args_cons' (ex_int _ _) args_nil')) (by decide))
        (ex_comp (by rfl) (comp_map (cl := []) [] (fun d => .int (unI d + 2)) V.v (it_list (items := (pastOf xs (szOf xs j) j).map Dat.int) S.hd (ex_name V.v (.tail _ (.head _)) rfl)) rfl (fun _ h => nomatch h) trivial (fun d hd C K VV => ?_) ?_)) ?_).cast (congrArg Dat.list (mir_eq xs j))) args_nil'))) ?_).cast (by rw [← E]; simp [dstrs]))
      (ex_split (ex_item (k := 0) (ex_name V.v (.tail _ (.tail _ (.tail _ (.tail _ (.head _))))) rfl) (hN _ _ _ _) (by omega) (hd_at [a, b, c] xs (by omega)) (by omega)) (ex_str _ _) (by decide) (by rw [sizeLine_eq]; omega))
      (okd_strs Wj.sok) (okd_strs Wj.sok) S.units (by simp)).cast rfl) (fun hb => nomatch hb) fun _ => ?_
    · obtain ⟨z, hz', rfl⟩ := List.mem_map.mp hd
      exact ex_add_int (ex_name VV (.head _) rfl) (ex_int _ _)
    · rw [List.length_map, sizeLine_eq]; omega
    · rw [List.length_map, List.length_map, sizeLine_eq]; simp; omega
    · rw [List.length_map, List.length_map, List.length_append, List.length_reverse, List.length_take, sizeLine_eq]; simp; omega
    -- sizes.append(..)
    have hS : ∀ p1 p2 p3, Ex prog w A _ h₀ L m (n ++ I') (.Subscript (.Name (Str.ofString "sizes") p1) (.Name (Str.ofString "at") p2) p3) (.int ((szOf xs j).getD j 0)) := fun p1 p2 p3 => ex_item (k := 0) (ex_name V.v (.tail _ (.tail _ (.tail _ (.head _)))) rfl) (ex_name V.v (.tail _ (.tail _ (.head _))) rfl) (by omega) (map_at Dat.int (szOf xs j) 0 (by omega)) (by omega)
    have hsm : IntMulOk 2 ((szOf xs j).getD j 0) := mul_small Wj.sz.1 Wj.sz.2
    refine blk_append (d := .int (stepOf xs (szOf xs j) j)) O (ex_if (x := (pastOf xs (szOf xs j) j).isEmpty) (tr_eq_list (t := (pastOf xs (szOf xs j) j).isEmpty) (ex_name V.v (.tail _ (.head _)) rfl) (ex_list (ds := []) args_nil' (by decide)) (fun d hd => by obtain ⟨z, _, rfl⟩ := List.mem_map.mp hd; rfl) (fun d hd => nomatch hd) S.units (by rw [List.isEmpty_iff, List.map_eq_nil_iff]))
      (fun h => (ex_add_int (ex_mul_int (ex_int _ _) (hS _ _ _) hsm) (ex_int _ _)).cast (by unfold stepOf; rw [if_pos h]))
      (fun h => (ex_sub_int (ex_mul_int (ex_int _ _) (hS _ _ _) hsm) (ex_item_neg (d := .int ((pastOf xs (szOf xs j) j).getLastD 0)) (ex_name V.v (.tail _ (.head _)) rfl) (ex_neg_int (ex_int _ _)) (by decide) ?_ (last_int ?_) (by decide))).cast (by unfold stepOf; rw [if_neg (by rw [h]; decide)]))) rfl (by rw [List.length_map, sizeLine_eq]; omega) fun n O => ?_
    · have : pastOf xs (szOf xs j) j ≠ [] := fun e => by rw [e] at h; cases h
      have := List.length_pos_iff.mpr this
      rw [List.length_map]; omega
    · exact fun e => by rw [e] at h; cases h
    have hsz : (szOf xs j).map Dat.int ++ [Dat.int (stepOf xs (szOf xs j) j)] = (szOf xs (j + 1)).map Dat.int := by simp [szOf]
    rw [hsz] at O
    have V := O.vc
    -- table
    have hN : ∀ p1 p2 p3 p4, Ex prog w A _ h₀ L m (n ++ I') (.BinOp (.Name (Str.ofString "at") p1) .Add (.Constant (.int 1) p4 p2) p3) (.int ((j + 1 : Nat) : Int)) := fun p1 p2 p3 p4 => (ex_add_int (ex_name V.v (.tail _ (.head _)) rfl) (ex_int _ _)).cast (by simp)
    have htk : (dints (xs.take (j + 1))).length ≤ 5 := by rw [dints, List.length_map, List.length_take]; omega
    have htab := tab_facts a b c hx5 j
    refine blk_put_compO V O ((comp2_is (cl := [(Str.ofString "sides", L + 6)]) (ρf := [(Str.ofString "sides", .list ((sdOf [a, b, c]).map fun l => .list (dstrs l)))]) (items := dints (xs.take (j + 1)).reverse) (items2 := fun d => dstrs ((sdOf [a, b, c]).getD (unI d).toNat [])) (t := fun _ => true) (f := fun _ d2 => d2) (bs := fun d => [(Str.ofString "letter", d)]) (bs2 := fun _ d2 => [(Str.ofString "half", d2)])
      S.hd (it_list S.hd ((ex_slice ((ex_slice (ex_name V.v (.tail _ (.tail _ (.tail _ (.tail _ (.tail _ (.head _)))))) rfl) .none (.some (hN _ _ _ _)) .none (by decide) (by rw [dints, List.length_map, sizeLine_eq]; omega) (lpick_upto _ (by omega))).cast (d' := .list (dints (xs.take (j + 1)))) (by rw [Int.toNat_natCast, dints, dints, List.map_take])) .none .none (.some (ex_neg_int (ex_int _ _))) (by decide) (by rw [sizeLine_eq]; omega) (lpick_rev _)).cast (by rw [dints, dints, List.map_reverse]))) rfl (by decide) (by rfl) (by decide) (by intro _; rfl) (vars_comp V.v (mem1 (.tail _ (.tail _ (.tail _ (.tail _ (.head _)))))) ⟨⟨rfl, fun _ => rfl, rfl⟩, trivial⟩)
      (fun d hd => takes_name (fun C => by rfl) (by rfl) (by rfl)) (fun d hd C q hq => by rw [List.mem_singleton.mp hq]; rfl) (fun d hd => .inl ⟨rfl, rfl⟩) (fun d hd _ C K VV => ?_) (fun d hd ht d2 hd2 => takes_name (fun C => by rfl) (by rfl) (by rfl)) (fun d hd ht d2 hd2 C q hq => by rw [List.mem_singleton.mp hq]; rfl) (fun d hd ht d2 hd2 C K VV => ex_name VV (.head _) rfl) ?_ (by intro _ _; rfl)).cast (tab_eq [a, b, c] xs j)) fun m n V O => ?_
    · obtain ⟨x, hx, rfl⟩ := List.mem_map.mp hd
      have hx3 : x < 3 := hxl x (List.mem_of_mem_take (List.mem_reverse.mp hx))
      exact (ex_item (k := 0) (ex_name VV (.tail _ (.head _)) rfl) (ex_name VV (.head _) rfl) (by omega) (map_at (fun l => Dat.list (dstrs l)) (sdOf [a, b, c]) [] (by simpa [sdOf] using hx3)) (by omega)).cast (by rw [show (unI (Dat.int (x : Int))).toNat = x from Int.toNat_natCast x])
    · rw [tab_eq, dstrs, List.length_map, sizeLine_eq]; omega
    -- if replace(..) + .. != ..
    have hN : ∀ p1 p2 p3 p4, Ex prog w A _ h₀ L m (n ++ I') (.BinOp (.Name (Str.ofString "at") p1) .Add (.Constant (.int 1) p4 p2) p3) (.int ((j + 1 : Nat) : Int)) := fun p1 p2 p3 p4 => (ex_add_int (ex_name V.v (.tail _ (.tail _ (.head _))) rfl) (ex_int _ _)).cast (by simp)
    refine blk_if_ret (b := false) ((tr_ne_str (ex_add_str (ex_call (S.less (by decide)) (own_replace w rfl rfl rfl) (fn_replace (tailOf [a, b, c] xs (j + 1)) (tabOf [a, b, c] xs j) Wj.rep (by omega) htab.2)
        (args_cons' (ex_item (k := 0) (ex_name V.v (.tail _ (.tail _ (.tail _ (.tail _ (.head _))))) rfl) (hN _ _ _ _) (by omega) (tl_at [a, b, c] xs (by omega)) (by omega)) (by
          rw [← List.append_nil (dstrs (tabOf [a, b, c] xs j))]
          exact args_star (ex_name V.v (.head _) rfl) args_nil' (by rw [List.length_map, sizeLine_eq]; omega))))
      (ex_item (k := 0) (ex_name V.v (.tail _ (.tail _ (.tail _ (.head _)))) rfl) (hN _ _ _ _) (by omega) (hd_at [a, b, c] xs (by omega)) (by omega)) (by have := Wj.repLen; rw [sizeLine_eq]; omega))
      (ex_item (k := 0) (a := ((5 : Nat) : Int)) (ex_name V.v (.tail _ (.tail _ (.tail _ (.head _)))) rfl) (ex_int _ _) (by decide) (hd_at [a, b, c] xs (by decide)) (by decide))).cast (by rw [Wj.eq]; simp)) (fun hb => nomatch hb) fun _ => ?_
    refine blk_nil ⟨O.sub (fun p hp => .tail _ hp), fun _ => V.sub (mem3 (.head _) (.tail _ (.tail _ (.tail _ (.head _)))) (.tail _ (.tail _ (.tail _ (.tail _ (.tail _ (.tail _ (.tail _ (.head _)))))))))⟩
  have V := (hV (by decide)).assoc
  clear O1 hV O
  have ht4 : (rng 5).length - 1 = 4 := by rw [List.length_map, List.length_range]
  rw [ht4] at V
  have htab := tab_facts a b c hx5 4
  have hla := W.la
  have hup := W.up
  have hl5 := W.len5
  have hH : ∀ p1 p2 p3, Ex prog w A _ h₀ L m' ((n' ++ nw) ++ I) (.Subscript (.Name (Str.ofString "heads") p1) (.Constant (.int 5) 0 p2) p3) (.str (headOf [a, b, c] xs 5)) := fun p1 p2 p3 => ex_item (k := 0) (a := ((5 : Nat) : Int)) (ex_name V.v (.tail _ (.head _)) rfl) (ex_int _ _) (by decide) (hd_at [a, b, c] xs (by decide)) (by decide)
  have q0 : (Str.ofString " ").length = 1 := by decide
  have q1 : (Str.ofString " " ++ Txt.upper (headOf [a, b, c] xs 5)).length ≤ 2000 := by rw [str_len_app]; omega
  refine blk_putv V (ex_add2 (ex_add2 (ex_str _ _) (ex_upper (hH _ _ _) (fit_len (by omega))) (by decide) (by omega)) (ex_str _ _) (by omega) (by decide)) (fun m n V => ?_) (.inl ⟨rfl, rfl⟩)
  have hloud : S' " " ++ Txt.upper (headOf [a, b, c] xs 5) ++ S' "\n" = loudOf [a, b, c] xs := rfl
  rw [hloud] at V
  have hL0 : ∀ p1 p2 p3, Ex prog w A _ h₀ L m (n ++ I) (.Subscript (.Name (Str.ofString "labels") p1) (.Constant (.int 0) 0 p2) p3) (.str a) := fun p1 p2 p3 => ex_item (k := 0) (ex_name V.v (.tail _ (.tail _ (.tail _ (.head _)))) rfl) (ex_int _ _) (by decide) rfl (by decide)
  have hL1 : ∀ p1 p2 p3, Ex prog w A _ h₀ L m (n ++ I) (.Subscript (.Name (Str.ofString "labels") p1) (.Constant (.int 1) 0 p2) p3) (.str b) := fun p1 p2 p3 => ex_item (k := 0) (ex_name V.v (.tail _ (.tail _ (.tail _ (.head _)))) rfl) (ex_int _ _) (by decide) rfl (by decide)
  have hm3 : (Txt.mul a 3).length ≤ 1000 := by
    have := W.lessL.1
    unfold lessText at this
    rw [str_len_app] at this
    have h2 : (Txt.mul ([a, b, c].getD 0 dot) 3).length = (Txt.mul a 3).length := rfl
    omega
  refine blk_putv V (ex_call (S.less (by decide)) (own_replace w rfl rfl rfl) (fn_replace (lessText [a, b, c]) (lessArgs [a, b, c]) W.less (by simp [lessArgs]) (by simp [lessArgs])) (args_cons' (ex_add2 (ex_mul_str (hL0 _ _ _) (ex_int _ _) (mulOk_of 10 3 hla (by decide) (by decide) (by decide) (by decide))) (ex_str _ _) (Nat.le_trans hm3 (by decide)) (by decide))
    (args_cons' (ex_mul_str (hL0 _ _ _) (ex_int _ _) (mulOk_of 10 2 hla (by decide) (by decide) (by decide) (by decide))) (args_cons' (ex_item_str (hL1 _ _ _) (ex_int _ _) (by decide) (show -(b.length : Int) ≤ 0 by omega) (show (0 : Int) < (b.length : Int) by have := W.lessL.2; omega)) (args_cons' (ex_str _ _) (args_cons' (ex_str _ _) args_nil')))))) (fun m n V => ?_) (.inl ⟨rfl, rfl⟩)
  rw [W.lessE] at V
  have hH : ∀ p1 p2 p3, Ex prog w A _ h₀ L m (n ++ I) (.Subscript (.Name (Str.ofString "heads") p1) (.Constant (.int 5) 0 p2) p3) (.str (headOf [a, b, c] xs 5)) := fun p1 p2 p3 => ex_item (k := 0) (a := ((5 : Nat) : Int)) (ex_name V.v (.tail _ (.tail _ (.tail _ (.head _)))) rfl) (ex_int _ _) (by decide) (hd_at [a, b, c] xs (by decide)) (by decide)
  have hL1 : ∀ p1 p2 p3, Ex prog w A _ h₀ L m (n ++ I) (.Subscript (.Name (Str.ofString "labels") p1) (.Constant (.int 1) 0 p2) p3) (.str b) := fun p1 p2 p3 => ex_item (k := 0) (ex_name V.v (.tail _ (.tail _ (.tail _ (.tail _ (.head _))))) rfl) (ex_int _ _) (by decide) rfl (by decide)
  have hLab : ∀ p1, Ex prog w A _ h₀ L m (n ++ I) (.Name (Str.ofString "labels") p1) (.list (dstrs [a, b, c])) := fun p1 => ex_name (pos := p1) V.v (.tail _ (.tail _ (.tail _ (.tail _ (.head _))))) rfl
  refine blk_if_ret (b := false) ((tr_ne_list (t := true) (ds := dstrs [headOf [a, b, c] xs 5, loudOf [a, b, c] xs, b]) (es := dstrs [headOf [a, b, c] xs 5, loudOf [a, b, c] xs, b])
    (ex_list (args_cons' (ex_call (S.less (by decide)) (own_replace w rfl rfl rfl) (fn_replace (headOf [a, b, c] xs 5) [] trivial (by decide) (by decide)) (args_cons' (hH _ _ _) args_nil')) (args_cons' ((ex_call (S.less (by decide)) (own_replace w rfl rfl rfl) (fn_replace (loudOf [a, b, c] xs) (tabOf [a, b, c] xs 4) W.loud (by omega) htab.2) (args_cons' (ex_name V.v (.tail _ (.head _)) rfl) (by
          rw [← List.append_nil (dstrs (tabOf [a, b, c] xs 4))]
          exact args_star (ex_name V.v (.tail _ (.tail _ (.head _))) rfl) args_nil' (by rw [List.length_map, sizeLine_eq]; omega)))).cast (congrArg Dat.str W.loudE)) (args_cons' (ex_name V.v (.head _) rfl) args_nil'))) (by rw [sizeLine_eq]; simp))
    (ex_list (args_cons' (hH _ _ _) (args_cons' (ex_name V.v (.tail _ (.head _)) rfl) (args_cons' (hL1 _ _ _) args_nil'))) (by rw [sizeLine_eq]; simp)) (okd_strs W.so) (okd_strs W.so) S.units (by simp)).cast rfl) (fun hb => nomatch hb) fun _ => ?_
  exact blk_return ((ex_and2 (x := true) (y := true) (ex_call (S.less (by decide)) (own_climbed w rfl rfl rfl) (fn_climbed a b c W.judged.t) (args_cons' (hLab _) args_nil')) (fun _ => ex_call (S.less (by decide)) (own_judged w rfl rfl rfl) (fn_judged a b c W.judged) (args_cons' (hLab _) args_nil'))).cast rfl)
end Mine
end
section
/-! part Top2 -/
open PySem PySem.W PyProof.Rows PySem.Spec PySem.Calls PyProof.V
set_option maxRecDepth 100000
set_option maxHeartbeats 8000000
namespace Mine
theorem cells_of {qual : PySem.Str} {scope : Scope} {cdv : Value} {f L : Addr} {l : Addr} {I cells : Led}
    (hk : scope.names.lookup (Str.ofString "script") = some .cell)
    (Y : CellsAre (bindC (envOfC qual scope L f cdv).kindOf [(Str.ofString "script", .ref l)] fun _ => none) (cellsFrom (L + 1) scope.names []) cells) (m : Mp) :
    VC (envOfC qual scope L f cdv) L m cells I [] ∧ VarAt (envOfC qual scope L f cdv) L m (cells ++ I) (Str.ofString "script") (.ref l) := by
  refine ⟨⟨Vars.nil, fun y c hc => ?_, apart_of (cells_pw _ _ _ (fun _ h => nomatch h) .nil)⟩, ?_⟩
  · obtain ⟨o, h1, h2⟩ := cellsAre_mem Y (mem_of_lookup hc)
    exact ⟨o, _, h1, h2⟩
  · have h' : (envOfC qual scope L f cdv).kindOf (Str.ofString "script") = some .cell := hk
    obtain ⟨c, hc⟩ := Option.isSome_iff_exists.mp (cellsFrom_some scope.names (L + 1) [] (.inl hk))
    obtain ⟨o, h1, h2⟩ := cellsAre_mem Y (mem_of_lookup hc)
    exact .cell c o h' hc (List.mem_append.mpr (.inl h1)) (h2.trans (congrArg PySem.Data.cell (bindC_in (kd := (envOfC qual scope L f cdv).kindOf) (by simp) (List.mem_singleton.mpr rfl) (by rw [h']; decide))))
theorem hdep {e : Env} : (callerA.deeper e).depth + 5 < recursionLimit := by
  show callerA.depth + 1 + 5 < recursionLimit
  decide
theorem huni {e : Env} : (callerA.deeper e).units + 8 * 5 + 64 < cLine := by
  show callerA.units + 3 + 8 * 5 + 64 < cLine
  decide
theorem top (HP : Plain) : PySem.Challenge.rw_rw0039_01.Holds := by
  refine Mine.hd (by
    k_go0
    rename_i w s₀ s₁ mg mb G Y fa ob pm doc ho hg KX X V GL T B TE TW w16 w15 M w14 w13 hcd ns hs hlay0 hL1 hr1 hl2 w11 w10 l vs w7 hL ra w1 r0 hI hr hc1 hc2 K0 hD h1 tk1 F o6 o5 o4 o3 o2 o1 o0 q6 q5 q4 q3 q2 q1 q0 N0 X0
    have hC := fun m => cells_of (I := []) (by with_unfolding_all rfl) X0 m
    refine law_walk HP (by with_unfolding_all rfl) _ _ _ _ _ _ [] _ _ l vs ns ⟨KX, T, rfl, hdep, huni, _, [], callerA, _, K0, rfl, rfl, rfl⟩ (hC _).1 (hC _).2 hL hI ?z [] _ _ _ Sub.rfl F ?N (fun _ _ _ h => nomatch h) ?r ?n
    case z =>
      have := hc1
      omega
    case N => rw [List.append_nil]; exact N0
    case n => exact fun _ _ _ _ _ _ _ x => x.elim
    case r =>
      clear hC X0 q6 q5 q4 q3 q2 q1 q0 hD G Y GL hcd
      intro v nw h' tk m' F' N' o' D'
      cases D'
      refine ⟨.inl ⟨.bool true, .bool true, [], rfl, fun cls => ?_, ?_, ?_, fun _ => ⟨.nil, fun _ h => nomatch h⟩⟩, F'.keep, rfl, hg⟩
      · first
          | with_unfolding_all rfl
          | (cases cls <;> with_unfolding_all rfl)
      · exact .bool true
      · first
          | with_unfolding_all rfl
          | simp [PySem.Challenge.rw_rw0039_01])
end Mine
end
section
/-! part Pl1 -/
open PySem PySem.W PyProof.Rows PySem.Spec PySem.Calls PyProof.V
set_option maxRecDepth 100000
namespace Mine
def smallL : List Nat := small₀.cps.toList
def signsL : List Nat := signs₀.cps.toList
theorem signs_nodup : signsL.Nodup := by decide +kernel
theorem signs_len : signsL.length = 66 := by decide +kernel
theorem small_len : smallL.length = 25 := by decide +kernel
theorem small_sub : ∀ c ∈ smallL, c ∈ signsL := by decide +kernel
theorem strike_len {l : List Nat} (h : l.Nodup) {c : Nat} (hc : c ∈ l) : (l.filter (· != c)).length + 1 = l.length := by
  have e := List.Nodup.erase_eq_filter h c
  rw [← e, List.length_erase_of_mem hc]
  have := List.length_pos_of_mem hc
  omega
theorem item_is {x : PySem.Str} {i : Int} (h0 : 0 ≤ i) (h1 : i < x.length) : ∃ c, c ∈ x.cps.toList ∧ Txt.item x i = ⟨#[c]⟩ := by
  obtain ⟨k, rfl⟩ : ∃ k : Nat, i = (k : Int) := ⟨i.toNat, by omega⟩
  have hk : k < x.cps.size := by have : x.length = x.cps.size := rfl
                                 omega
  refine ⟨x.cps[k], by simp, ?_⟩
  have e : seqIndex? (k : Int) x.length = some k := by
    unfold seqIndex?
    have h2 : x.length = x.cps.size := rfl
    rw [h2]
    have hk' : ¬ ((k : Int) < 0) := by omega
    simp
    omega
  have e2 : Txt.charAt x (k : Int) = some x.cps[k] := by
    unfold Txt.charAt
    rw [e]
    simp
  unfold Txt.item
  rw [e2]; rfl
/-- the three signs -/
structure Signs (f g h : Nat) : Prop where
  mf : f ∈ smallL
  mg : g ∈ signsL
  mh : h ∈ signsL
  fg : g ≠ f
  fh : h ≠ f
  gh : h ≠ g
theorem picks_len (p : Int) : (signs₁ p).length = 65 ∧ ∃ f, f ∈ smallL ∧ first₀ p = ⟨#[f]⟩ ∧ (signs₁ p).cps.toList = signsL.filter (· != f) := by
  have ls : small₀.length = 25 := small_len
  obtain ⟨f, hf, e⟩ := item_is (x := small₀) (i := p.fmod 25) (Int.fmod_nonneg_of_pos _ (by decide)) (by have := Int.fmod_lt_of_pos p (b := 25) (by decide); omega)
  have e1 : first₀ p = ⟨#[f]⟩ := e
  have e2 : (signs₁ p).cps.toList = signsL.filter (· != f) := by
    unfold signs₁
    rw [e1]
    exact replace_strikes signs₀ f
  refine ⟨?_, f, hf, e1, e2⟩
  have h2 : (signs₁ p).length = (signs₁ p).cps.toList.length := by rw [Array.length_toList]; rfl
  rw [h2, e2]
  have := strike_len signs_nodup (small_sub f hf)
  rw [signs_len] at this; omega
theorem picks_len2 (p q : Int) : (signs₂ p q).length = 64 ∧ ∃ f g, f ∈ smallL ∧ g ∈ signsL ∧ g ≠ f ∧ first₀ p = ⟨#[f]⟩ ∧ second₀ p q = ⟨#[g]⟩ ∧ (signs₂ p q).cps.toList = (signsL.filter (· != f)).filter (· != g) := by
  obtain ⟨hl, f, hf, e1, e2⟩ := picks_len p
  obtain ⟨g, hg, e⟩ := item_is (x := signs₁ p) (i := (37 + q).fmod 65) (Int.fmod_nonneg_of_pos _ (by decide)) (by have := Int.fmod_lt_of_pos (37 + q) (b := 65) (by decide); omega)
  have e3 : second₀ p q = ⟨#[g]⟩ := e
  have e4 : (signs₂ p q).cps.toList = (signs₁ p).cps.toList.filter (· != g) := by
    unfold signs₂
    rw [e3]
    exact replace_strikes (signs₁ p) g
  have hn : (signs₁ p).cps.toList.Nodup := by rw [e2]; exact signs_nodup.filter _
  have hg2 := hg
  rw [e2, List.mem_filter] at hg2
  refine ⟨?_, f, g, hf, hg2.1, by simpa using hg2.2, e1, e3, by rw [e4, e2]⟩
  have h2 : (signs₂ p q).length = (signs₂ p q).cps.toList.length := by rw [Array.length_toList]; rfl
  rw [h2, e4]
  have := strike_len hn hg
  have h3 : (signs₁ p).cps.toList.length = (signs₁ p).length := by rw [Array.length_toList]; rfl
  omega
theorem picks_three (p q r : Int) : ∃ f g h, Signs f g h ∧ first₀ p = ⟨#[f]⟩ ∧ second₀ p q = ⟨#[g]⟩ ∧ third₀ p q r = ⟨#[h]⟩ := by
  obtain ⟨hl, f, g, hf, hg, hfg, e1, e2, e3⟩ := picks_len2 p q
  obtain ⟨h, hh, e⟩ := item_is (x := signs₂ p q) (i := (37 + r).fmod 64) (Int.fmod_nonneg_of_pos _ (by decide)) (by have := Int.fmod_lt_of_pos (37 + r) (b := 64) (by decide); omega)
  rw [e3, List.mem_filter, List.mem_filter] at hh
  exact ⟨f, g, h, ⟨hf, hg, hh.1.1, hfg, by simpa using hh.1.2, by simpa using hh.2⟩, e1, e2, e⟩
/-- what is left: the plain law for three signs -/
theorem plain_of (H : ∀ f g h xs, Signs f g h → xs.length = 5 → (∀ x ∈ xs, x < 3) → WordOk ⟨#[f]⟩ ⟨#[g, f]⟩ ⟨#[h, g, f]⟩ xs) : Plain := by
  refine ⟨fun p => (picks_len p).1, fun p q => (picks_len2 p q).1, fun p q r xs h1 h2 => ?_⟩
  obtain ⟨f, g, h, S, e1, e2, e3⟩ := picks_three p q r
  rw [e1, e2, e3]
  exact H f g h xs S h1 h2
end Mine
end
section
/-! part Pl2 -/
open PySem PySem.W PyProof.Rows PySem.Spec PySem.Calls PyProof.V
set_option maxRecDepth 100000
namespace Mine
/-- rows of letters: each other letter gets x ahead of it -/
def subR (x : Nat) (row : List Nat) : List Nat := row.flatMap fun i => if i == x then [x] else [x, i]
def stepR (row : List Nat) (x : Nat) : List Nat := subR x row ++ [x]
def headR (xs : List Nat) (k : Nat) : List Nat := (xs.take k).reverse.foldl stepR []
def tailR (xs : List Nat) (k : Nat) : List Nat := (xs.drop k).reverse.foldl stepR []
def isInfix (p : List Nat) : List Nat → Bool
  | [] => p.isEmpty
  | a :: r => List.isPrefixOf p (a :: r) || isInfix p r
def lineR (xs : List Nat) (k : Nat) : List Nat := headR xs k ++ [xs.getD k 9]
def palinR (row : List Nat) (i : Nat) : Bool := (row.drop i).reverse == row.drop i
def maxR : List Int → Int
  | [] => 0
  | a :: r => max a (maxR r)
def mostR (row : List Nat) (mx : Int) : Int := if (row.length : Int) - 1 < mx then (row.length : Int) - 1 else mx
def firstR (row : List Nat) : Nat := ((List.range (row.length + 1)).find? fun i => palinR row i).getD 0
def tabR (xs : List Nat) (k : Nat) (row : List Nat) : List Nat := (xs.take (k + 1)).reverse.foldl (fun row x => subR x row) row
end Mine
end
section
/-! part Pl3 -/
open PySem PySem.W PyProof.Rows PySem.Spec PySem.Calls PyProof.V StrLaws Builtin.Str
set_option maxRecDepth 100000
namespace Mine
theorem at_iff {x y : PySem.Str} {k : Nat} : At x y x.length k ↔ y.cps.toList <+: x.cps.toList.drop k ∧ k + y.length ≤ x.length := by
  unfold At subAt
  constructor
  · rintro ⟨h1, h2⟩
    refine ⟨?_, h1⟩
    have e := beq_iff_eq.mp h2
    have e2 := congrArg Array.toList e
    rw [Array.toList_extract] at e2
    rw [← e2, List.extract_eq_take_drop]
    exact List.take_prefix _ _
  · rintro ⟨h1, h2⟩
    refine ⟨h2, beq_iff_eq.mpr ?_⟩
    apply Array.toList_inj.mp
    rw [Array.toList_extract, List.extract_eq_take_drop]
    obtain ⟨t, ht⟩ := h1
    have hl : y.length = y.cps.toList.length := by rw [Array.length_toList]; rfl
    rw [← ht, Nat.add_sub_cancel_left, hl, List.take_left']
    rfl
theorem chain_uniq {x y : PySem.Str} : ∀ {cuts cuts' : List Nat} {a f f' : Nat}, ChainG x y x.length a cuts f → ChainG x y x.length a cuts' f' → (∀ k, f ≤ k → ¬ At x y x.length k) → (∀ k, f' ≤ k → ¬ At x y x.length k) → cuts = cuts'
  | [], [], _, _, _, _, _, _, _ => rfl
  | [], c :: r, a, f, f', h, h', n, n' => by
    have e : f = a := h
    exact absurd h'.2.1 (n c (by rw [e]; exact h'.1))
  | c :: r, [], a, f, f', h, h', n, n' => by
    have e : f' = a := h'
    exact absurd h.2.1 (n' c (by rw [e]; exact h.1))
  | c :: r, c' :: r', a, f, f', h, h', n, n' => by
    have e : c = c' := by
      rcases Nat.lt_trichotomy c c' with hl | hl | hl
      · exact absurd h.2.1 (h'.2.2.1 c h.1 hl)
      · exact hl
      · exact absurd h'.2.1 (h.2.2.1 c' h'.1 hl)
    subst e
    rw [chain_uniq h.2.2.2 h'.2.2.2 n n']

/-- the parts between cuts y -/
def catL (y : List Nat) : List (List Nat) → List Nat
  | [] => []
  | [p] => p
  | p :: q :: r => p ++ y ++ catL y (q :: r)
/-- y is met first at the end of each part, and not at all in the last -/
def Tight (y : List Nat) : List (List Nat) → Prop
  | [] => False
  | [p] => ∀ k, ¬ y <+: p.drop k
  | p :: q :: r => (∀ k, k < p.length → ¬ y <+: (p ++ y ++ catL y (q :: r)).drop k) ∧ Tight y (q :: r)
def posn (w a : Nat) : List (List Nat) → List Nat
  | [] => []
  | [_] => []
  | p :: q :: r => (a + p.length) :: posn w (a + p.length + w) (q :: r)
def mkS (l : List Nat) : PySem.Str := ⟨l.toArray⟩
theorem mkS_list (l : List Nat) : (mkS l).cps.toList = l := rfl
theorem mkS_len (l : List Nat) : (mkS l).length = l.length := by unfold mkS; show l.toArray.size = _; rw [List.size_toArray]
theorem mkS_self (x : PySem.Str) : mkS x.cps.toList = x := by unfold mkS; cases x; simp
theorem tight_chain {y : List Nat} (hy : 1 ≤ y.length) : ∀ (parts : List (List Nat)) (pre : List Nat), Tight y parts →
    ∃ f, ChainG (mkS (pre ++ catL y parts)) (mkS y) (mkS (pre ++ catL y parts)).length pre.length (posn y.length pre.length parts) f ∧ (∀ k, f ≤ k → ¬ At (mkS (pre ++ catL y parts)) (mkS y) (mkS (pre ++ catL y parts)).length k) ∧
      partsFrom (mkS (pre ++ catL y parts)) y.length pre.length (posn y.length pre.length parts) = parts.map mkS
  | [], pre, h => h.elim
  | [p], pre, h => by
    refine ⟨pre.length, rfl, fun k hk ha => ?_, ?_⟩
    · have := (at_iff.mp ha).1
      rw [mkS_list, mkS_list, catL] at this
      obtain ⟨j, rfl⟩ : ∃ j, k = pre.length + j := ⟨k - pre.length, by omega⟩
      rw [← List.drop_drop, List.drop_left] at this
      exact h j this
    · show [strSub (mkS (pre ++ p)) pre.length (mkS (pre ++ p)).length] = [mkS p]
      congr 1
      unfold strSub mkS
      congr 1
      apply Array.toList_inj.mp
      rw [Array.toList_extract, List.extract_eq_take_drop]
      have : (Str.length { cps := (pre ++ p).toArray }) = (pre ++ p).length := mkS_len _
      rw [this]
      simp
  | p :: q :: r, pre, h => by
    obtain ⟨h1, h2⟩ := h
    have e : pre ++ catL y (p :: q :: r) = (pre ++ p ++ y) ++ catL y (q :: r) := by simp [catL]
    obtain ⟨f, c1, c2, c3⟩ := tight_chain hy (q :: r) (pre ++ p ++ y) h2
    have el : (pre ++ p ++ y).length = pre.length + p.length + y.length := by rw [List.length_append, List.length_append]
    rw [el] at c1 c3
    rw [e]
    refine ⟨f, ⟨Nat.le_add_right _ _, ?_, fun k hk1 hk2 ha => ?_, by rw [mkS_len]; exact c1⟩, c2, ?_⟩
    · refine at_iff.mpr ⟨?_, by rw [mkS_len, mkS_len]; simp; omega⟩
      rw [mkS_list, mkS_list]
      have : (pre ++ p ++ y ++ catL y (q :: r)).drop (pre.length + p.length) = y ++ catL y (q :: r) := by
        rw [List.append_assoc, ← List.length_append, List.drop_left]
      rw [this]; exact List.prefix_append _ _
    · have := (at_iff.mp ha).1
      rw [mkS_list, mkS_list] at this
      obtain ⟨j, rfl⟩ : ∃ j, k = pre.length + j := ⟨k - pre.length, by omega⟩
      rw [← List.drop_drop] at this
      have e3 : (pre ++ p ++ y ++ catL y (q :: r)).drop pre.length = p ++ y ++ catL y (q :: r) := by
        rw [List.append_assoc, List.append_assoc, List.drop_left, List.append_assoc]
      rw [e3] at this
      exact h1 j (by omega) this
    · show strSub _ _ _ :: partsFrom _ _ _ _ = mkS p :: _
      rw [c3]
      congr 1
      unfold strSub mkS
      congr 1
      apply Array.toList_inj.mp
      rw [Array.toList_extract, List.extract_eq_take_drop]
      have : (pre ++ p ++ y ++ catL y (q :: r)).drop pre.length = p ++ y ++ catL y (q :: r) := by
        rw [List.append_assoc, List.append_assoc, List.drop_left, List.append_assoc]
      show List.take _ ((pre ++ p ++ y ++ catL y (q :: r)).drop pre.length) = p
      rw [this, Nat.add_sub_cancel_left, List.append_assoc, List.take_left']
      rfl
/-- what Txt.split makes of tight parts -/
theorem split_tight {y : List Nat} (hy : 1 ≤ y.length) {parts : List (List Nat)} (h : Tight y parts) (hk : ¬ strKind (mkS (catL y parts)) < strKind (mkS y)) : Txt.split (mkS (catL y parts)) (mkS y) = parts.map mkS := by
  have hy' : 1 ≤ (mkS y).length := by rw [mkS_len]; exact hy
  obtain ⟨f, c1, c2, c3⟩ := tight_chain hy parts [] h
  obtain ⟨f', d1, d2⟩ := occ_tight (mkS (catL y parts)) (mkS y) hy'
  rw [List.nil_append] at c1 c2 c3
  have e := chain_uniq d1 c1 d2 c2
  unfold Txt.split
  have c3' : partsFrom (mkS (catL y parts)) (mkS y).length 0 (occurrences (mkS (catL y parts)) (mkS y) 0 (mkS (catL y parts)).length ((mkS (catL y parts)).length + 1)) = parts.map mkS := by
    rw [e, mkS_len y]; exact c3
  split
  · rename_i hc
    rw [Bool.or_eq_true, decide_eq_true_eq, decide_eq_true_eq] at hc
    rcases hc with hc | hc
    · have : occurrences (mkS (catL y parts)) (mkS y) 0 (mkS (catL y parts)).length ((mkS (catL y parts)).length + 1) = [] := by
        cases ho : occurrences (mkS (catL y parts)) (mkS y) 0 (mkS (catL y parts)).length ((mkS (catL y parts)).length + 1) with
        | nil => rfl
        | cons c r => rw [ho] at d1; have := d1.2.1.1; omega
      rw [this] at c3'
      rw [← c3']
      show [_] = [strSub _ 0 _]
      rw [sub_whole]
    · exact absurd hc hk
  · split
    · rename_i ho
      have ho' := List.isEmpty_iff.mp ho
      rw [ho'] at c3'
      rw [← c3']
      show [_] = [strSub _ 0 _]
      rw [sub_whole]
    · rw [partsBetween_eq]; exact c3'
end Mine
end
section
/-! part Pl4 -/
open PySem PySem.W PyProof.Rows PySem.Spec PySem.Calls PyProof.V StrLaws Builtin.Str
set_option maxRecDepth 100000
namespace Mine
theorem tight_free {c : Nat} : ∀ {parts : List (List Nat)}, parts ≠ [] → (∀ p ∈ parts, c ∉ p) → Tight [c] parts
  | [], h, _ => absurd rfl h
  | [p], _, h => fun k hk => by
    have : c ∈ p.drop k := hk.subset List.mem_cons_self
    exact h p List.mem_cons_self (List.mem_of_mem_drop this)
  | p :: q :: r, _, h => by
    refine ⟨fun k hk hp => ?_, tight_free (by simp) fun z hz => h z (List.mem_cons.mpr (.inr hz))⟩
    have e : (p ++ [c] ++ catL [c] (q :: r)).drop k = p.drop k ++ ([c] ++ catL [c] (q :: r)) := by
      rw [List.append_assoc, List.drop_append_of_le_length (by omega)]
    rw [e, List.drop_eq_getElem_cons hk] at hp
    obtain ⟨t, ht⟩ := hp
    have : c = p[k] := by simpa using (List.cons.inj ht).1
    exact h p List.mem_cons_self (this ▸ List.getElem_mem hk)

/-- names: none has a dot; by its first sign each is known -/
structure Nm (nm : Nat → List Nat) : Prop where
  dot : ∀ i, 46 ∉ nm i
  hd : ∀ i j, i < 3 → j < 3 → (nm i).head? = (nm j).head? → i = j
  ne : ∀ i, nm i ≠ []
def DL (nm : Nat → List Nat) (row : List Nat) : List Nat := row.flatMap fun i => 46 :: nm i
theorem DL_cons (nm : Nat → List Nat) (a : Nat) (r : List Nat) : DL nm (a :: r) = 46 :: (nm a ++ DL nm r) := by unfold DL; rw [List.flatMap_cons]; rfl
theorem DL_app (nm : Nat → List Nat) (a b : List Nat) : DL nm (a ++ b) = DL nm a ++ DL nm b := by unfold DL; rw [List.flatMap_append]
theorem DL_cat (nm : Nat → List Nat) : ∀ row : List Nat, catL [46] ([] :: row.map nm) = DL nm row
  | [] => rfl
  | [a] => by simp [catL, DL]
  | a :: b :: r => by
    have ih := DL_cat nm (b :: r)
    rw [DL_cons]
    rw [List.map_cons] at ih ⊢
    show [] ++ [46] ++ catL [46] (nm a :: nm b :: r.map nm) = _
    have e : catL [46] ([] :: nm b :: r.map nm) = [46] ++ catL [46] (nm b :: r.map nm) := by simp [catL]
    rw [e] at ih
    show [] ++ [46] ++ (nm a ++ [46] ++ catL [46] (nm b :: r.map nm)) = _
    rw [← ih]; simp
theorem kind_dot (x : PySem.Str) : ¬ strKind x < strKind (mkS [46]) := by
  have h1 : strKind (mkS [46]) = 1 := by decide +kernel
  have h2 : 1 ≤ strKind x := by unfold Builtin.Str.strKind; split <;> (try split) <;> decide
  omega
theorem split_row {nm : Nat → List Nat} (N : Nm nm) (row : List Nat) : Txt.split (mkS (DL nm row)) dot = nil₀ :: row.map fun i => mkS (nm i) := by
  rw [← DL_cat]
  have h := split_tight (y := [46]) (by decide) (tight_free (parts := [] :: row.map nm) (by simp) fun p hp => by
    rcases List.mem_cons.mp hp with rfl | hp
    · simp
    · obtain ⟨i, _, rfl⟩ := List.mem_map.mp hp; exact N.dot i) (kind_dot _)
  have e : mkS [46] = dot := by decide
  rw [e] at h
  rw [h, List.map_cons, List.map_map]
  rfl
end Mine
end
section
/-! part Pl5 -/
open PySem PySem.W PyProof.Rows PySem.Spec PySem.Calls PyProof.V StrLaws Builtin.Str
set_option maxRecDepth 100000
namespace Mine
variable {nm : Nat → List Nat}
theorem head_pre {nm : Nat → List Nat} (N : Nm nm) {n a : Nat} (hn : n < 3) (ha : a < 3) {t : List Nat} (h : nm n <+: nm a ++ t) : n = a := by
  refine N.hd n a hn ha ?_
  obtain ⟨u, hu⟩ := h
  have h1 : (nm n ++ u).head? = (nm a ++ t).head? := by rw [hu]
  have e : ∀ {l u : List Nat}, l ≠ [] → (l ++ u).head? = l.head? := by
    intro l u h
    cases l with
    | nil => exact absurd rfl h
    | cons x y => rfl
  rw [e (N.ne n), e (N.ne a)] at h1
  exact h1
theorem pre_row {nm : Nat → List Nat} (N : Nm nm) {n : Nat} (hn : n < 3) : ∀ (row : List Nat) (k : Nat) (t : List Nat), (∀ i ∈ row, i < 3) → 46 :: nm n <+: (DL nm row).drop k → ∃ pre post, row = pre ++ n :: post ∧ k = (DL nm pre).length
  | [], k, _, _, h => by
    have : DL nm [] = [] := rfl
    rw [this, List.drop_nil] at h
    have := h.length_le
    simp at this
  | a :: r, 0, _, hr, h => by
    rw [DL_cons, List.drop_zero, List.cons_prefix_cons] at h
    have e := head_pre N hn (hr a List.mem_cons_self) h.2
    subst e
    exact ⟨[], r, rfl, rfl⟩
  | a :: r, k + 1, t, hr, h => by
    rw [DL_cons, List.drop_succ_cons] at h
    by_cases hk : k < (nm a).length
    · rw [List.drop_append_of_le_length (by omega), List.drop_eq_getElem_cons hk, List.cons_append, List.cons_prefix_cons] at h
      exact absurd (h.1 ▸ List.getElem_mem hk) (N.dot a)
    · obtain ⟨j, rfl⟩ : ∃ j, k = (nm a).length + j := ⟨k - (nm a).length, by omega⟩
      rw [← List.drop_drop, List.drop_left] at h
      obtain ⟨pre, post, e1, e2⟩ := pre_row N hn r j t (fun i hi => hr i (List.mem_cons.mpr (.inr hi))) h
      refine ⟨a :: pre, post, by rw [e1]; rfl, ?_⟩
      rw [DL_cons, List.length_cons, List.length_append, e2]
/-- the rows between the letters n -/
def cutR (n : Nat) : List Nat → List (List Nat)
  | [] => [[]]
  | a :: r => if a = n then [] :: cutR n r else match cutR n r with
    | [] => [[a]]
    | p :: q => (a :: p) :: q
theorem cutR_ne (n : Nat) : ∀ row, cutR n row ≠ []
  | [] => by simp [cutR]
  | a :: r => by unfold cutR; split <;> (try split) <;> simp
theorem cutR_free (n : Nat) : ∀ row, ∀ p ∈ cutR n row, n ∉ p
  | [], p, hp => by simp [cutR] at hp; subst hp; simp
  | a :: r, p, hp => by
    have ih := cutR_free n r
    unfold cutR at hp
    split at hp
    · rcases List.mem_cons.mp hp with rfl | hp
      · simp
      · exact ih p hp
    · rename_i hne
      split at hp
      · rename_i e; exact absurd e (cutR_ne n r)
      · rename_i q0 q1 e
        rcases List.mem_cons.mp hp with rfl | hp
        · intro hm
          rcases List.mem_cons.mp hm with h | h
          · exact hne h.symm
          · exact ih q0 (by rw [e]; exact List.mem_cons_self) h
        · exact ih p (by rw [e]; exact List.mem_cons.mpr (.inr hp))
theorem catL_cons (y p : List Nat) : ∀ {l : List (List Nat)}, l ≠ [] → catL y (p :: l) = p ++ y ++ catL y l
  | [], h => absurd rfl h
  | q :: r, _ => rfl
theorem catL_head (y : List Nat) (a : Nat) (p : List Nat) (q : List (List Nat)) : catL y ((a :: p) :: q) = a :: catL y (p :: q) := by
  cases q <;> simp [catL]
theorem cut_cat (n : Nat) (s : List Nat) : ∀ row, catL s (cutR n row) = row.flatMap fun i => if i = n then s else [i]
  | [] => rfl
  | a :: r => by
    have ih := cut_cat n s r
    unfold cutR
    rw [List.flatMap_cons]
    split
    · rw [catL_cons _ _ (cutR_ne n r), ih]; simp
    · split
      · rename_i e; exact absurd e (cutR_ne n r)
      · rename_i q0 q1 e
        rw [catL_head, ← e, ih]; rfl
theorem DL_catL (nm : Nat → List Nat) (s : List Nat) : ∀ rows : List (List Nat), DL nm (catL s rows) = catL (DL nm s) (rows.map (DL nm))
  | [] => rfl
  | [p] => rfl
  | p :: q :: r => by
    have ih := DL_catL nm s (q :: r)
    show DL nm (p ++ s ++ catL s (q :: r)) = DL nm p ++ DL nm s ++ catL (DL nm s) ((q :: r).map (DL nm))
    rw [DL_app, DL_app, ih]
theorem tight_row {nm : Nat → List Nat} (N : Nm nm) {n : Nat} (hn : n < 3) : ∀ rows : List (List Nat), rows ≠ [] → (∀ p ∈ rows, n ∉ p ∧ ∀ i ∈ p, i < 3) → Tight (DL nm [n]) (rows.map (DL nm))
  | [], h, _ => absurd rfl h
  | [p], _, h => fun k hk => by
    have e : DL nm [n] = 46 :: nm n := by rw [DL_cons]; simp [DL]
    rw [e] at hk
    obtain ⟨pre, post, e1, _⟩ := pre_row N hn p k [] (h p List.mem_cons_self).2 hk
    exact (h p List.mem_cons_self).1 (by rw [e1]; simp)
  | p :: q :: r, _, h => by
    refine ⟨fun k hk hp => ?_, tight_row N hn (q :: r) (by simp) fun z hz => h z (List.mem_cons.mpr (.inr hz))⟩
    have e : DL nm [n] = 46 :: nm n := by rw [DL_cons]; simp [DL]
    have e2 : DL nm p ++ DL nm [n] ++ catL (DL nm [n]) ((q :: r).map (DL nm)) = DL nm (catL [n] (p :: q :: r)) := (DL_catL nm [n] (p :: q :: r)).symm
    have hall : ∀ i ∈ catL [n] (p :: q :: r), i < 3 := by
      have : ∀ rows : List (List Nat), (∀ z ∈ rows, ∀ i ∈ z, i < 3) → ∀ i ∈ catL [n] rows, i < 3 := by
        intro rows
        induction rows with
        | nil => intro _ i hi; cases hi
        | cons a t ih =>
          intro hz i hi
          cases t with
          | nil => exact hz a List.mem_cons_self i hi
          | cons b u =>
            have hi' : i ∈ a ++ [n] ++ catL [n] (b :: u) := hi
            rcases List.mem_append.mp hi' with hi' | hi'
            · rcases List.mem_append.mp hi' with hi' | hi'
              · exact hz a List.mem_cons_self i hi'
              · rw [List.mem_singleton.mp hi']; exact hn
            · exact ih (fun z hz' => hz z (List.mem_cons.mpr (.inr hz'))) i hi'
      exact this _ fun z hz => (h z hz).2
    have hp' : 46 :: nm n <+: (DL nm (catL [n] (p :: q :: r))).drop k := by
      rw [← e2, ← e]; exact hp
    obtain ⟨pre, post, e3, e4⟩ := pre_row N hn _ k [] hall hp'
    have e5 : p ++ ([n] ++ catL [n] (q :: r)) = pre ++ n :: post := by rw [← e3, ← List.append_assoc]; rfl
    have hlen : pre.length < p.length := by
      refine Nat.lt_of_not_le fun hle => ?_
      obtain ⟨u, hu⟩ : ∃ u, pre = p ++ u := by
        have : p <+: pre := by
          have h1 : p <+: pre ++ n :: post := by rw [← e5]; exact List.prefix_append _ _
          exact List.prefix_of_prefix_length_le h1 (List.prefix_append _ _) hle
        obtain ⟨u, hu⟩ := this; exact ⟨u, hu.symm⟩
      rw [hu, DL_app, List.length_append] at e4
      have hk' : k < (DL nm p).length := hk
      omega
    have hm : n ∈ p := by
      have h1 : (p ++ ([n] ++ catL [n] (q :: r)))[pre.length]? = some n := by rw [e5]; simp
      rw [List.getElem?_append_left hlen] at h1
      exact List.mem_of_getElem? h1
    exact (h p List.mem_cons_self).1 hm
end Mine
end
section
/-! part Pl6 -/
open PySem PySem.W PyProof.Rows PySem.Spec PySem.Calls PyProof.V StrLaws Builtin.Str
set_option maxRecDepth 100000
namespace Mine
theorem mkS_app (a b : List Nat) : mkS a ++ mkS b = mkS (a ++ b) := by
  show (⟨a.toArray ++ b.toArray⟩ : PySem.Str) = ⟨(a ++ b).toArray⟩
  simp
theorem join_mk (z : List Nat) : ∀ {parts : List (List Nat)}, Txt.join (mkS z) (parts.map mkS) = mkS (catL z parts) := by
  intro parts
  have h : ∀ parts : List (List Nat), Str.join (mkS z) (parts.map mkS) = mkS (catL z parts) := by
    intro parts
    induction parts with
    | nil => rfl
    | cons p t ih =>
      cases t with
      | nil => rfl
      | cons q r =>
        show mkS p ++ mkS z ++ Str.join (mkS z) ((q :: r).map mkS) = mkS (p ++ z ++ catL z (q :: r))
        rw [ih, mkS_app, mkS_app]
  rw [← h]
  exact StrLaws.glued_eq_join _ _
theorem kind_one {l : List Nat} (h : ∀ c ∈ l, c < 256) : Builtin.Str.strKind (mkS l) = 1 := by
  unfold Builtin.Str.strKind
  rw [if_pos]
  rw [← Array.all_toList, mkS_list]
  exact List.all_eq_true.mpr fun c hc => decide_eq_true (h c hc)
theorem DL_low {nm : Nat → List Nat} (h : ∀ i, ∀ c ∈ nm i, c < 256) (row : List Nat) : ∀ c ∈ DL nm row, c < 256 := fun c hc => by
  unfold DL at hc
  obtain ⟨i, _, hi⟩ := List.mem_flatMap.mp hc
  rcases List.mem_cons.mp hi with rfl | hi
  · decide
  · exact h i c hi
def putR (x n : Nat) (row : List Nat) : List Nat := row.flatMap fun i => if i = n then [x, n] else [i]
theorem cutR_lt {n : Nat} {row : List Nat} (h : ∀ i ∈ row, i < 3) : ∀ p ∈ cutR n row, ∀ i ∈ p, i < 3 := by
  induction row with
  | nil => intro p hp; simp [cutR] at hp; subst hp; simp
  | cons a r ih =>
    have ih := ih fun i hi => h i (List.mem_cons.mpr (.inr hi))
    intro p hp i hi
    unfold cutR at hp
    split at hp
    · rcases List.mem_cons.mp hp with rfl | hp
      · cases hi
      · exact ih p hp i hi
    · split at hp
      · rename_i e; exact absurd e (cutR_ne n r)
      · rename_i q0 q1 e
        rcases List.mem_cons.mp hp with rfl | hp
        · rcases List.mem_cons.mp hi with rfl | hi
          · exact h _ List.mem_cons_self
          · exact ih q0 (by rw [e]; exact List.mem_cons_self) i hi
        · exact ih p (by rw [e]; exact List.mem_cons.mpr (.inr hp)) i hi
theorem split_name {nm : Nat → List Nat} (N : Nm nm) (hl : ∀ i, ∀ c ∈ nm i, c < 256) {n : Nat} (hn : n < 3) {row : List Nat} (hr : ∀ i ∈ row, i < 3) :
    Txt.split (mkS (DL nm row)) (mkS (DL nm [n])) = ((cutR n row).map (DL nm)).map mkS := by
  have e : row = catL [n] (cutR n row) := by
    rw [cut_cat]
    clear hr
    induction row with
    | nil => rfl
    | cons a r ih =>
      rw [List.flatMap_cons, ← ih]
      split
      · rename_i h; rw [h]; rfl
      · rfl
  have e2 : DL nm row = catL (DL nm [n]) ((cutR n row).map (DL nm)) := by rw [← DL_catL, ← e]
  rw [e2]
  refine split_tight (by rw [DL_cons]; simp) (tight_row N hn _ (cutR_ne n row) fun p hp => ⟨cutR_free n row p hp, cutR_lt hr p hp⟩) ?_
  rw [← e2, kind_one (DL_low hl _), kind_one (DL_low hl _)]; omega
theorem rep_row {nm : Nat → List Nat} (N : Nm nm) (hl : ∀ i, ∀ c ∈ nm i, c < 256) {n : Nat} (x : Nat) (hn : n < 3) {row : List Nat} (hr : ∀ i ∈ row, i < 3) :
    Txt.join (mkS (DL nm [x, n])) (Txt.split (mkS (DL nm row)) (mkS (DL nm [n]))) = mkS (DL nm (putR x n row)) := by
  rw [split_name N hl hn hr, join_mk, ← DL_catL, cut_cat]; rfl
end Mine
end
section
/-! part Pl7 -/
open PySem PySem.W PyProof.Rows PySem.Spec PySem.Calls PyProof.V StrLaws Builtin.Str
set_option maxRecDepth 100000
namespace Mine
def nmL (f g h : Nat) : Nat → List Nat
  | 0 => [f]
  | 1 => [g, f]
  | _ => [h, g, f]
theorem signs_facts : ∀ c ∈ signsL, c < 128 ∧ c ≠ 46 ∧ c ≠ 32 ∧ c ≠ 10 ∧ c ≠ 108 ∧ ¬ (65 ≤ c ∧ c ≤ 90) := by decide +kernel
theorem small_facts : ∀ c ∈ smallL, 97 ≤ c ∧ c ≤ 122 := by decide +kernel
theorem nm_ok {f g h : Nat} (S : Signs f g h) : Nm (nmL f g h) := by
  have hf := signs_facts f (small_sub f S.mf)
  have hg := signs_facts g S.mg
  have hh := signs_facts h S.mh
  have h1 := S.fg
  have h2 := S.fh
  have h3 := S.gh
  refine ⟨fun i => ?_, fun i j hi hj e => ?_, fun i => ?_⟩
  · match i with
    | 0 => simp [nmL]; omega
    | 1 => simp [nmL]; omega
    | i + 2 => simp [nmL]; omega
  · have ci : i = 0 ∨ i = 1 ∨ i = 2 := by omega
    have cj : j = 0 ∨ j = 1 ∨ j = 2 := by omega
    rcases ci with rfl | rfl | rfl <;> rcases cj with rfl | rfl | rfl <;> simp [nmL] at e ⊢ <;> omega
  · match i with
    | 0 => simp [nmL]
    | 1 => simp [nmL]
    | i + 2 => simp [nmL]
theorem nm_low {f g h : Nat} (S : Signs f g h) : ∀ i, ∀ c ∈ nmL f g h i, c < 128 := by
  have hf := signs_facts f (small_sub f S.mf)
  have hg := signs_facts g S.mg
  have hh := signs_facts h S.mh
  intro i c hc
  match i with
  | 0 => simp [nmL] at hc; omega
  | 1 => simp [nmL] at hc; omega
  | i + 2 => simp [nmL] at hc; omega
end Mine
end
section
/-! part Pl8 -/
open PySem PySem.W PyProof.Rows PySem.Spec PySem.Calls PyProof.V StrLaws Builtin.Str
set_option maxRecDepth 100000
namespace Mine
section
variable {f g h : Nat}
abbrev labL (f g h : Nat) : List PySem.Str := [⟨#[f]⟩, ⟨#[g, f]⟩, ⟨#[h, g, f]⟩]
abbrev tx (f g h : Nat) (row : List Nat) : PySem.Str := mkS (DL (nmL f g h) row)
theorem ne_len {x y : PySem.Str} (h : x.length ≠ y.length) : (x != y) = true := by
  rw [bne_iff_ne]; exact fun e => h (by rw [e])
theorem sides_are (f g h : Nat) : sdOf (labL f g h) = [[tx f g h [1], tx f g h [0, 1], tx f g h [2], tx f g h [0, 2]], [tx f g h [0], tx f g h [1, 0], tx f g h [2], tx f g h [1, 2]], [tx f g h [0], tx f g h [2, 0], tx f g h [1], tx f g h [2, 1]]] := by
  have e01 : ((⟨#[f]⟩ : PySem.Str) != ⟨#[g, f]⟩) = true := ne_len (show (1 : Nat) ≠ 2 by decide)
  have e02 : ((⟨#[f]⟩ : PySem.Str) != ⟨#[h, g, f]⟩) = true := ne_len (show (1 : Nat) ≠ 3 by decide)
  have e10 : ((⟨#[g, f]⟩ : PySem.Str) != ⟨#[f]⟩) = true := ne_len (show (2 : Nat) ≠ 1 by decide)
  have e12 : ((⟨#[g, f]⟩ : PySem.Str) != ⟨#[h, g, f]⟩) = true := ne_len (show (2 : Nat) ≠ 3 by decide)
  have e20 : ((⟨#[h, g, f]⟩ : PySem.Str) != ⟨#[f]⟩) = true := ne_len (show (3 : Nat) ≠ 1 by decide)
  have e21 : ((⟨#[h, g, f]⟩ : PySem.Str) != ⟨#[g, f]⟩) = true := ne_len (show (3 : Nat) ≠ 2 by decide)
  show [lawPairs (labL f g h) ⟨#[f]⟩, lawPairs (labL f g h) ⟨#[g, f]⟩, lawPairs (labL f g h) ⟨#[h, g, f]⟩] = _
  unfold lawPairs
  simp only [List.flatMap_cons, List.flatMap_nil, e01, e02, e10, e12, e20, e21, bne_self_eq_false, if_true, Bool.false_eq_true, if_false, List.nil_append, List.append_nil]
  rfl
end
end Mine
end
section
/-! part Pl9 -/
open PySem PySem.W PyProof.Rows PySem.Spec PySem.Calls PyProof.V StrLaws Builtin.Str
set_option maxRecDepth 100000
namespace Mine
section
variable {f g h : Nat}
theorem DL_len {nm : Nat → List Nat} {B : Nat} (hB : ∀ i, (nm i).length ≤ B) : ∀ row : List Nat, (DL nm row).length ≤ row.length * (B + 1)
  | [] => by simp [DL]
  | a :: r => by
    have := DL_len hB r
    have := hB a
    rw [DL_cons, List.length_cons, List.length_append, List.length_cons, Nat.add_mul]
    omega
theorem nm_len (f g h : Nat) : ∀ i, (nmL f g h i).length ≤ 3
  | 0 => by simp [nmL]
  | 1 => by simp [nmL]
  | i + 2 => by simp [nmL]
theorem tx_len (f g h : Nat) (row : List Nat) : (tx f g h row).length ≤ row.length * 4 := by
  rw [mkS_len]; exact DL_len (nm_len f g h) row
theorem nm_low256 (S : Signs f g h) : ∀ i, ∀ c ∈ nmL f g h i, c < 256 := fun i c hc => by have := nm_low S i c hc; omega
/-- one pair of a side, on a row -/
theorem pair_row (S : Signs f g h) (x : Nat) {n : Nat} (hn : n < 3) {row : List Nat} (hr : ∀ i ∈ row, i < 3) (hz : row.length ≤ 1000) :
    ((tx f g h [n]).length == 0) = false ∧ (tx f g h row).length + 2 ≤ sizeLine ∧ JoinOk (tx f g h [x, n]) (Txt.split (tx f g h row) (tx f g h [n])) = true ∧ Txt.join (tx f g h [x, n]) (Txt.split (tx f g h row) (tx f g h [n])) = tx f g h (putR x n row) := by
  have hl := tx_len f g h row
  have hl2 := tx_len f g h [x, n]
  simp at hl2
  refine ⟨?_, by rw [sizeLine_eq]; omega, ?_, rep_row (nm_ok S) (nm_low256 S) x hn hr⟩
  · rw [mkS_len, DL_cons]; simp
  · rw [split_name (nm_ok S) (nm_low256 S) hn hr]
    have hc : ∀ row : List Nat, (cutR n row).length ≤ row.length + 1 ∧ ∀ p ∈ cutR n row, p.length ≤ row.length := by
      intro row
      induction row with
      | nil => simp [cutR]
      | cons a r ih =>
        unfold cutR
        split
        · refine ⟨by simp; exact ih.1, fun p hp => ?_⟩
          rcases List.mem_cons.mp hp with rfl | hp
          · simp
          · have := ih.2 p hp; simp; omega
        · split
          · rename_i e; exact absurd e (cutR_ne n r)
          · rename_i q0 q1 e
            rw [e] at ih
            refine ⟨by have := ih.1; simp at this ⊢; omega, fun p hp => ?_⟩
            rcases List.mem_cons.mp hp with rfl | hp
            · have := ih.2 q0 List.mem_cons_self; simp; omega
            · have := ih.2 p (List.mem_cons.mpr (.inr hp)); simp; omega
    refine joinOk_of 4000 (fun y hy => ?_) ?_
    · obtain ⟨l, hl, rfl⟩ := List.mem_map.mp hy
      obtain ⟨p, hp, rfl⟩ := List.mem_map.mp hl
      have h1 := tx_len f g h p
      have h2 := (hc row).2 p hp
      show (tx f g h p).length ≤ 4000
      omega
    · rw [List.length_map, List.length_map]
      have h1 := (hc row).1
      calc (cutR n row).length * (4000 + (tx f g h [x, n]).length) ≤ 1001 * (4000 + 8) := Nat.mul_le_mul (by omega) (by omega)
        _ ≤ 16777216 := by decide
end
end Mine
end
section
/-! part PlA -/
open PySem PySem.W PyProof.Rows PySem.Spec PySem.Calls PyProof.V StrLaws Builtin.Str
set_option maxRecDepth 100000
namespace Mine
section
variable {f g h : Nat}
theorem put_lt {x n : Nat} (hx : x < 3) (hn : n < 3) {row : List Nat} (hr : ∀ i ∈ row, i < 3) : ∀ i ∈ putR x n row, i < 3 := fun i hi => by
  obtain ⟨j, hj, hi⟩ := List.mem_flatMap.mp hi
  split at hi
  · simp at hi; omega
  · rw [List.mem_singleton.mp hi]; exact hr j hj
theorem put_len (x n : Nat) : ∀ row : List Nat, (putR x n row).length ≤ 2 * row.length
  | [] => by simp [putR]
  | a :: r => by
    have := put_len x n r
    unfold putR at this ⊢
    rw [List.flatMap_cons, List.length_append, List.length_cons]
    have h2 : (if a = n then [x, n] else [a]).length ≤ 2 := by split <;> simp
    omega
theorem put_put {x n k : Nat} (hx : x < 3) (hn : n < 3) (hk : k < 3) (h1 : n ≠ x) (h2 : k ≠ x) (h3 : n ≠ k) : ∀ {row : List Nat}, (∀ i ∈ row, i < 3) → putR x k (putR x n row) = subR x row
  | [], _ => rfl
  | a :: r, hr => by
    have ih := put_put hx hn hk h1 h2 h3 (row := r) fun i hi => hr i (List.mem_cons.mpr (.inr hi))
    have ha := hr a List.mem_cons_self
    unfold putR subR at ih ⊢
    rw [List.flatMap_cons, List.flatMap_append, ih, List.flatMap_cons]
    congr 1
    have hc : a = x ∨ a = n ∨ a = k := by omega
    rcases hc with rfl | rfl | rfl
    · simp [h1.symm, h2.symm]
    · simp [h1, h2.symm, h3]
    · simp [h2, h3.symm]
theorem side_row (S : Signs f g h) {x n k : Nat} (hx : x < 3) (hn : n < 3) (hk : k < 3) (h1 : n ≠ x) (h2 : k ≠ x) (h3 : n ≠ k) {row : List Nat} (hr : ∀ i ∈ row, i < 3) (hz : row.length ≤ 400) :
    RepOk (tx f g h row) [tx f g h [n], tx f g h [x, n], tx f g h [k], tx f g h [x, k]] ∧ repl (tx f g h row) [tx f g h [n], tx f g h [x, n], tx f g h [k], tx f g h [x, k]] = tx f g h (subR x row) := by
  obtain ⟨a1, a2, a3, a4⟩ := pair_row S x hn hr (by omega)
  have hl := put_len x n row
  obtain ⟨b1, b2, b3, b4⟩ := pair_row S x hk (put_lt hx hn hr) (by omega)
  constructor
  · refine ⟨a1, a2, a3, ?_⟩
    rw [a4]
    exact ⟨b1, b2, b3, trivial⟩
  · show repl (Txt.join _ (Txt.split _ _)) _ = _
    rw [a4]
    show repl (Txt.join _ (Txt.split _ _)) [] = _
    rw [b4, put_put hx hn hk h1 h2 h3 hr]; rfl
theorem sides_row (S : Signs f g h) {x : Nat} (hx : x < 3) {row : List Nat} (hr : ∀ i ∈ row, i < 3) (hz : row.length ≤ 400) :
    RepOk (tx f g h row) ((sdOf (labL f g h)).getD x []) ∧ repl (tx f g h row) ((sdOf (labL f g h)).getD x []) = tx f g h (subR x row) := by
  rw [sides_are]
  have hc : x = 0 ∨ x = 1 ∨ x = 2 := by omega
  rcases hc with rfl | rfl | rfl
  · exact side_row S (by decide) (by decide) (by decide) (by decide) (by decide) (by decide) hr hz
  · exact side_row S (by decide) (by decide) (by decide) (by decide) (by decide) (by decide) hr hz
  · exact side_row S (by decide) (by decide) (by decide) (by decide) (by decide) (by decide) hr hz
end
end Mine
end
section
/-! part PlB -/
open PySem PySem.W PyProof.Rows PySem.Spec PySem.Calls PyProof.V StrLaws Builtin.Str
set_option maxRecDepth 100000
namespace Mine
section
variable {f g h : Nat}
theorem step_lt {row : List Nat} {x : Nat} (hx : x < 3) (hr : ∀ i ∈ row, i < 3) : ∀ i ∈ stepR row x, i < 3 := fun i hi => by
  unfold stepR subR at hi
  rcases List.mem_append.mp hi with hi | hi
  · obtain ⟨j, hj, hi⟩ := List.mem_flatMap.mp hi
    have := hr j hj
    split at hi <;> simp at hi <;> omega
  · rw [List.mem_singleton.mp hi]; exact hx
theorem sub_len (x : Nat) : ∀ row : List Nat, (subR x row).length ≤ 2 * row.length
  | [] => by simp [subR]
  | a :: r => by
    have := sub_len x r
    unfold subR at this ⊢
    rw [List.flatMap_cons, List.length_append, List.length_cons]
    have h2 : (if (a == x) = true then [x] else [x, a]).length ≤ 2 := by split <;> simp
    omega
theorem step_len (x : Nat) (row : List Nat) : (stepR row x).length ≤ 2 * row.length + 1 := by
  unfold stepR; rw [List.length_append, List.length_singleton]; have := sub_len x row; omega
theorem lab_at (f g h : Nat) {x : Nat} (hx : x < 3) : dot ++ (labL f g h).getD x dot = tx f g h [x] := by
  have hc : x = 0 ∨ x = 1 ∨ x = 2 := by omega
  rcases hc with rfl | rfl | rfl <;> rfl
theorem str_assoc (a b c : PySem.Str) : a ++ b ++ c = a ++ (b ++ c) := by
  show (⟨(a.cps ++ b.cps) ++ c.cps⟩ : PySem.Str) = ⟨a.cps ++ (b.cps ++ c.cps)⟩
  rw [Array.append_assoc]
theorem tx_app (f g h : Nat) (a b : List Nat) : tx f g h a ++ tx f g h b = tx f g h (a ++ b) := by
  show mkS _ ++ mkS _ = mkS _
  rw [mkS_app, DL_app]
theorem palStep_row (S : Signs f g h) {x : Nat} (hx : x < 3) {row : List Nat} (hr : ∀ i ∈ row, i < 3) (hz : row.length ≤ 400) :
    palStep (labL f g h) (sdOf (labL f g h)) (tx f g h row) x = tx f g h (stepR row x) := by
  unfold palStep
  rw [(sides_row S hx hr hz).2, str_assoc, lab_at f g h hx, tx_app]; rfl
def runR : List Nat → List Nat → List (List Nat)
  | row, [] => [row]
  | row, x :: r => row :: runR (stepR row x) r
theorem palRun_row (S : Signs f g h) : ∀ (xs row : List Nat) (B : Nat), (∀ x ∈ xs, x < 3) → (∀ i ∈ row, i < 3) → row.length ≤ B → (B + 1) * 2 ^ xs.length ≤ 400 →
    palRun (labL f g h) (sdOf (labL f g h)) (tx f g h row) xs = (runR row xs).map (tx f g h) ∧ PalOk (labL f g h) (sdOf (labL f g h)) (tx f g h row) xs
  | [], row, B, _, _, _, _ => ⟨rfl, trivial⟩
  | x :: r, row, B, hx, hr, hl, hB => by
    have hx0 := hx x List.mem_cons_self
    rw [List.length_cons, Nat.pow_succ] at hB
    have hp : 1 ≤ 2 ^ r.length := Nat.one_le_two_pow
    have hB1 : (B + 1) * 1 ≤ (B + 1) * (2 ^ r.length * 2) := Nat.mul_le_mul_left _ (by omega)
    have hz : row.length ≤ 400 := by omega
    have hs := step_len x row
    have hB2 : (2 * B + 1 + 1) * 2 ^ r.length ≤ 400 := by
      have : (2 * B + 1 + 1) * 2 ^ r.length = (B + 1) * (2 ^ r.length * 2) := by
        rw [show 2 * B + 1 + 1 = (B + 1) * 2 by omega, Nat.mul_assoc, Nat.mul_comm 2]
      omega
    obtain ⟨i1, i2⟩ := palRun_row S r (stepR row x) (2 * B + 1) (fun y hy => hx y (List.mem_cons.mpr (.inr hy))) (step_lt hx0 hr) (by omega) hB2
    have e := palStep_row S hx0 hr hz
    have hsl : (stepR row x).length ≤ 400 := by
      have : (2 * B + 1 + 1) * 1 ≤ (2 * B + 1 + 1) * 2 ^ r.length := Nat.mul_le_mul_left _ hp
      omega
    have hside := (show ((sdOf (labL f g h)).getD x []).length ≤ 6 ∧ _ from side_facts _ _ _ x)
    refine ⟨?_, ?_⟩
    · unfold palRun runR
      rw [e, i1]; rfl
    · refine ⟨⟨?_, ?_, by omega⟩, (sides_row S hx0 hr hz).1, ⟨by omega, hside.2⟩, ?_, by rw [e]; exact i2⟩
      · show x < 3; exact hx0
      · show x < 3; exact hx0
      · rw [e]
        have := tx_len f g h (stepR row x)
        rw [sizeLine_eq]; omega
end
end Mine
end
section
/-! part PlC -/
open PySem PySem.W PyProof.Rows PySem.Spec PySem.Calls PyProof.V StrLaws Builtin.Str
set_option maxRecDepth 100000
namespace Mine
section
variable {f g h : Nat}
theorem runR_last : ∀ (xs row : List Nat), (runR row xs).getLastD [] = xs.foldl stepR row
  | [], row => rfl
  | x :: r, row => by
    have ih := runR_last r (stepR row x)
    unfold runR
    rw [List.foldl_cons, ← ih]
    cases r <;> rfl
theorem runR_ne (xs row : List Nat) : runR row xs ≠ [] := by cases xs <;> simp [runR]
theorem runR_at : ∀ (xs row : List Nat) (j : Nat), j ≤ xs.length → (runR row xs)[j]? = some ((xs.take j).foldl stepR row)
  | [], row, 0, _ => rfl
  | [], row, j + 1, h => by simp at h
  | x :: r, row, 0, _ => rfl
  | x :: r, row, j + 1, h => by
    unfold runR
    rw [List.getElem?_cons_succ, runR_at r _ j (by simpa using h)]; rfl
theorem runR_len : ∀ (xs row : List Nat), (runR row xs).length = xs.length + 1
  | [], _ => rfl
  | x :: r, row => by unfold runR; rw [List.length_cons, runR_len r]; rfl
theorem run_row (S : Signs f g h) {xs : List Nat} (hx : ∀ x ∈ xs, x < 3) (hl : xs.length ≤ 5) : runOf (labL f g h) xs = (runR [] xs.reverse).map (tx f g h) ∧ PalOk (labL f g h) (sdOf (labL f g h)) nil₀ xs.reverse := by
  have hp : (0 + 1) * 2 ^ xs.reverse.length ≤ 400 := by
    rw [List.length_reverse]
    have : 2 ^ xs.length ≤ 2 ^ 5 := Nat.pow_le_pow_right (by decide) hl
    omega
  exact palRun_row S xs.reverse [] 0 (fun x hx' => hx x (List.mem_reverse.mp hx')) (fun _ h => nomatch h) (Nat.le_refl _) hp
theorem head_row (S : Signs f g h) {xs : List Nat} (hx : ∀ x ∈ xs, x < 3) (hl : xs.length ≤ 5) (k : Nat) : headOf (labL f g h) xs k = tx f g h (headR xs k) := by
  unfold headOf headR
  rw [(run_row S (xs := xs.take k) (fun x hx' => hx x (List.mem_of_mem_take hx')) (by rw [List.length_take]; omega)).1, ← runR_last]
  generalize runR [] (xs.take k).reverse = l
  cases hl : l with
  | nil => rfl
  | cons a r =>
    rw [List.getLastD_eq_getLast?, List.getLastD_eq_getLast?, List.getLast?_map]
    cases hh : (a :: r).getLast? with
    | none => simp at hh
    | some z => rfl
theorem tail_row (S : Signs f g h) {xs : List Nat} (hx : ∀ x ∈ xs, x < 3) (hl : xs.length ≤ 5) {k : Nat} (hk : k ≤ xs.length) : tailOf (labL f g h) xs k = tx f g h (tailR xs k) := by
  unfold tailOf tailR
  rw [(run_row S hx hl).1, List.getD_eq_getElem?_getD, ← List.map_reverse, List.getElem?_map, List.getElem?_reverse (by rw [runR_len, List.length_reverse]; omega), runR_len, List.length_reverse]
  have e : xs.length + 1 - 1 - k = xs.length - k := by omega
  rw [e, runR_at _ _ _ (by rw [List.length_reverse]; omega)]
  have e2 : xs.reverse.take (xs.length - k) = (xs.drop k).reverse := by
    rw [List.reverse_drop]
  rw [e2]; rfl
theorem repl_app : ∀ (l1 l2 : List PySem.Str) (t : PySem.Str), l1.length % 2 = 0 → repl t (l1 ++ l2) = repl (repl t l1) l2 ∧ (RepOk t l1 → RepOk (repl t l1) l2 → RepOk t (l1 ++ l2))
  | [], l2, t, _ => ⟨rfl, fun _ h => h⟩
  | [a], l2, t, h => by simp at h
  | a :: b :: r, l2, t, h => by
    obtain ⟨h1, h2⟩ := repl_app r l2 (Txt.join b (Txt.split t a)) (by simp at h; omega)
    exact ⟨h1, fun ⟨a1, a2, a3, a4⟩ h4 => ⟨a1, a2, a3, h2 a4 h4⟩⟩
theorem tab_row (S : Signs f g h) : ∀ (ls row : List Nat) (B : Nat), (∀ x ∈ ls, x < 3) → (∀ i ∈ row, i < 3) → row.length ≤ B → (B + 1) * 2 ^ ls.length ≤ 400 →
    RepOk (tx f g h row) (ls.flatMap fun x => (sdOf (labL f g h)).getD x []) ∧ repl (tx f g h row) (ls.flatMap fun x => (sdOf (labL f g h)).getD x []) = tx f g h (ls.foldl (fun row x => subR x row) row)
  | [], row, B, _, _, _, _ => ⟨trivial, rfl⟩
  | x :: r, row, B, hx, hr, hl, hB => by
    have hx0 := hx x List.mem_cons_self
    rw [List.length_cons, Nat.pow_succ] at hB
    have hp : 1 ≤ 2 ^ r.length := Nat.one_le_two_pow
    have hB1 : (B + 1) * 1 ≤ (B + 1) * (2 ^ r.length * 2) := Nat.mul_le_mul_left _ (by omega)
    have hz : row.length ≤ 400 := by omega
    have hs := sub_len x row
    have hB2 : (2 * B + 1) * 2 ^ r.length ≤ 400 := by
      have h1 : (2 * B + 1) * 2 ^ r.length ≤ (2 * B + 2) * 2 ^ r.length := Nat.mul_le_mul_right _ (by omega)
      have : (2 * B + 2) * 2 ^ r.length = (B + 1) * (2 ^ r.length * 2) := by
        rw [show 2 * B + 2 = (B + 1) * 2 by omega, Nat.mul_assoc, Nat.mul_comm 2]
      omega
    have hlt : ∀ i ∈ subR x row, i < 3 := fun i hi => step_lt hx0 hr i (List.mem_append.mpr (.inl hi))
    obtain ⟨i1, i2⟩ := tab_row S r (subR x row) (2 * B) (fun y hy => hx y (List.mem_cons.mpr (.inr hy))) hlt (by omega) hB2
    obtain ⟨s1, s2⟩ := sides_row S hx0 hr hz
    have hev := (show _ ∧ ((sdOf (labL f g h)).getD x []).length % 2 = 0 from side_facts _ _ _ x).2
    obtain ⟨a1, a2⟩ := repl_app ((sdOf (labL f g h)).getD x []) (r.flatMap fun x => (sdOf (labL f g h)).getD x []) (tx f g h row) hev
    rw [List.flatMap_cons]
    exact ⟨a2 s1 (by rw [s2]; exact i1), by rw [a1, s2, i2]; rfl⟩
end
end Mine
end
section
/-! part PlD -/
open PySem PySem.W PyProof.Rows PySem.Spec PySem.Calls PyProof.V StrLaws Builtin.Str
set_option maxRecDepth 100000
namespace Mine
abbrev Asc (l : List Nat) : Prop := ∀ c ∈ l, c < 128
theorem lower_mk {l : List Nat} (h : Asc l) : Txt.lower (mkS l) = mkS (l.map lo1) := by
  rw [lower_ascii (x := mkS l) h]
  unfold mkS
  congr 1
  simp
theorem upper_mk {l : List Nat} (h : Asc l) : Txt.upper (mkS l) = mkS (l.map up1) := by
  rw [upper_ascii (x := mkS l) h]
  unfold mkS
  congr 1
  simp
theorem mk_beq (a b : List Nat) : (mkS a == mkS b) = (a == b) := by
  rw [Bool.eq_iff_iff, beq_iff_eq, beq_iff_eq]
  constructor
  · intro h
    have := congrArg (fun x : PySem.Str => x.cps.toList) h
    exact this
  · intro h; rw [h]
theorem mk_bne (a b : List Nat) : (mkS a != mkS b) = (a != b) := by
  unfold bne; rw [mk_beq]
theorem starts_mk (l p : List Nat) : Txt.startswith (mkS l) (mkS p) = p.isPrefixOf l := by
  unfold Txt.startswith
  rw [mkS_len, mkS_len, subAt_eq, mkS_list, mkS_list, mkS_len, List.drop_zero, Bool.eq_iff_iff, Bool.and_eq_true, decide_eq_true_eq, beq_iff_eq, List.isPrefixOf_iff_prefix]
  constructor
  · rintro ⟨h1, h2⟩
    rw [← h2]; exact List.take_prefix _ _
  · intro h
    exact ⟨by have := h.length_le; omega, (List.prefix_iff_eq_take.mp h).symm⟩
def endsL (l p : List Nat) : Bool := decide (p.length ≤ l.length) && l.drop (l.length - p.length) == p
theorem ends_mk (l p : List Nat) : Txt.endswith (mkS l) (mkS p) = endsL l p := by
  unfold Txt.endswith endsL
  rw [mkS_len, mkS_len, subAt_eq, mkS_list, mkS_list, mkS_len, Nat.zero_add]
  rw [Bool.eq_iff_iff, Bool.and_eq_true, Bool.and_eq_true, decide_eq_true_eq, beq_iff_eq, beq_iff_eq]
  constructor
  · rintro ⟨h1, h2⟩
    refine ⟨h1, ?_⟩
    rwa [List.take_of_length_le (by rw [List.length_drop]; omega)] at h2
  · rintro ⟨h1, h2⟩
    refine ⟨h1, ?_⟩
    rw [h2, List.take_length]
theorem from_mk (l : List Nat) {i : Nat} (h : i ≤ l.length) : Txt.slice (mkS l) (some (i : Int)) none = mkS (l.drop i) := by
  have e := sliceText_from (x := mkS l) (i := (i : Int)) ⟨Int.natCast_nonneg _, by rw [mkS_list]; omega⟩
  rw [mkS_list] at e
  have e2 : Txt.slice (mkS l) (some (i : Int)) none = sliceText (mkS l) (some (i : Int)) none := rfl
  rw [e2, e]
  unfold mkS
  congr 2
  rw [Int.toNat_natCast, List.take_of_length_le]
  rw [List.length_drop]; omega
theorem tail1_mk {l : List Nat} (h : l ≠ []) : tail1 (mkS l) = mkS (l.drop 1) := by
  unfold tail1
  exact from_mk l (i := 1) (List.length_pos_iff.mpr h)
/-- what stands behind the first dot -/
def afterDot : List Nat → Option (List Nat)
  | [] => none
  | c :: r => if c = 46 then some r else afterDot r
theorem after_spec : ∀ (l : List Nat), (afterDot l = none ∧ 46 ∉ l) ∨ ∃ p r, l = p ++ 46 :: r ∧ 46 ∉ p ∧ afterDot l = some r
  | [] => .inl ⟨rfl, by simp⟩
  | c :: r => by
    unfold afterDot
    by_cases hc : c = 46
    · rw [if_pos hc]
      exact .inr ⟨[], r, by rw [hc]; rfl, by simp, rfl⟩
    · rw [if_neg hc]
      rcases after_spec r with ⟨h1, h2⟩ | ⟨p, q, h1, h2, h3⟩
      · exact .inl ⟨h1, by simp [h2]; omega⟩
      · exact .inr ⟨c :: p, q, by rw [h1]; rfl, by simp [h2]; omega, h3⟩
theorem dot_mk : Str.ofString "." = mkS [46] := by decide
theorem at_dot {l : List Nat} {i : Nat} : At (mkS l) (mkS [46]) (mkS l).length i ↔ l[i]? = some 46 := by
  rw [at_iff, mkS_list, mkS_list, mkS_len, mkS_len]
  constructor
  · rintro ⟨h1, h2⟩
    have : ([46] ++ []).head? = (l.drop i).head? := by
      obtain ⟨t, ht⟩ := h1; rw [← ht]; rfl
    rw [List.head?_drop] at this
    exact this.symm
  · intro h
    obtain ⟨hi, he⟩ := List.getElem?_eq_some_iff.mp h
    refine ⟨?_, by simp; omega⟩
    rw [List.drop_eq_getElem_cons hi, he]
    exact ⟨_, rfl⟩
theorem find_mk (l : List Nat) : (afterDot l = none ∧ 46 ∉ l ∧ Txt.find (mkS l) (Str.ofString ".") = -1) ∨ ∃ r, afterDot l = some r ∧ 46 ∈ l ∧ 0 ≤ Txt.find (mkS l) (Str.ofString ".") ∧ tailFrom (mkS l) (Txt.find (mkS l) (Str.ofString ".") + 1) = mkS r := by
  rw [dot_mk]
  unfold Txt.find
  rcases occ_head (mkS l) (mkS [46]) 1 (Nat.le_refl _) with ⟨h1, h2⟩ | ⟨i, r, h1, h2, h3⟩
  · rw [h1]
    refine .inl ⟨?_, ?_, rfl⟩
    · rcases after_spec l with ⟨a, _⟩ | ⟨p, q, e, _, _⟩
      · exact a
      · exact absurd (at_dot.mpr (by rw [e]; simp)) (h2 p.length)
    · intro hm
      obtain ⟨i, hi, he⟩ := List.getElem_of_mem hm
      exact h2 i (at_dot.mpr (List.getElem?_eq_some_iff.mpr ⟨hi, he⟩))
  · rw [h1]
    have hd := at_dot.mp h2
    rcases after_spec l with ⟨_, b⟩ | ⟨p, q, e, b, c⟩
    · exact absurd (List.mem_of_getElem? hd) b
    · have hp : i = p.length := by
        rcases Nat.lt_trichotomy i p.length with hl | hl | hl
        · rw [e, List.getElem?_append_left hl] at hd
          exact absurd (List.mem_of_getElem? hd) b
        · exact hl
        · exact absurd (at_dot.mpr (by rw [e]; simp)) (h3 p.length hl)
      refine .inr ⟨q, c, List.mem_of_getElem? hd, Int.natCast_nonneg _, ?_⟩
      show Txt.slice (mkS l) (some (((i + 1 : Nat)) : Int)) none = mkS q
      have hl : l.length = p.length + (q.length + 1) := by rw [e]; simp
      rw [from_mk l (by omega), e, hp]
      congr 1
      rw [List.drop_append, List.drop_of_length_le (by omega)]
      simp
theorem rfind_mk (l p : List Nat) (hp : p ≠ []) : (Txt.rfind (mkS l) (mkS p) == -1 || Txt.rfind (mkS l) (mkS p) == 0) = !isInfix p (l.drop 1) := by
  have inf : ∀ t : List Nat, isInfix p t = true ↔ ∃ k, k + p.length ≤ t.length ∧ p <+: t.drop k := by
    intro t
    induction t with
    | nil =>
      unfold isInfix
      rw [List.isEmpty_iff]
      constructor
      · intro h; exact absurd h hp
      · rintro ⟨k, h1, h2⟩
        rw [List.drop_nil] at h2
        exact List.prefix_nil.mp h2
    | cons a r ih =>
      unfold isInfix
      rw [Bool.or_eq_true, List.isPrefixOf_iff_prefix, ih]
      constructor
      · rintro (h | ⟨k, h1, h2⟩)
        · exact ⟨0, by have := h.length_le; omega, h⟩
        · exact ⟨k + 1, by rw [List.length_cons]; omega, by rw [List.drop_succ_cons]; exact h2⟩
      · rintro ⟨k, h1, h2⟩
        cases k with
        | zero => exact .inl h2
        | succ k => exact .inr ⟨k, by rw [List.length_cons] at h1; omega, by rw [List.drop_succ_cons] at h2; exact h2⟩
  have hpl := List.length_pos_iff.mpr hp
  have key : isInfix p (l.drop 1) = true ↔ ∃ i, 1 ≤ i ∧ At (mkS l) (mkS p) (mkS l).length i := by
    rw [inf]
    constructor
    · rintro ⟨k, h1, h2⟩
      rw [List.length_drop] at h1
      rw [List.drop_drop] at h2
      exact ⟨1 + k, by omega, at_iff.mpr ⟨h2, by rw [mkS_len, mkS_len]; omega⟩⟩
    · rintro ⟨i, h1, h2⟩
      obtain ⟨h3, h4⟩ := at_iff.mp h2
      rw [mkS_len, mkS_len] at h4
      refine ⟨i - 1, by rw [List.length_drop]; omega, ?_⟩
      rw [List.drop_drop, show 1 + (i - 1) = i by omega]
      exact h3
  unfold Txt.rfind
  rcases last_spec (mkS l) (mkS p) with ⟨h1, h2⟩ | ⟨i, h1, h2, h3⟩
  · rw [h1]
    have : isInfix p (l.drop 1) = false := by
      rw [Bool.eq_false_iff]; intro h
      obtain ⟨i, _, hi⟩ := key.mp h
      exact h2 i hi
    rw [this]; rfl
  · rw [h1]
    by_cases hi : i = 0
    · subst hi
      have : isInfix p (l.drop 1) = false := by
        rw [Bool.eq_false_iff]; intro h
        obtain ⟨i, h0, hi⟩ := key.mp h
        exact h3 i (by omega) hi
      rw [this]; rfl
    · have : isInfix p (l.drop 1) = true := key.mpr ⟨i, by omega, h2⟩
      rw [this]
      show ((i : Int) == -1 || (i : Int) == 0) = false
      rw [Bool.or_eq_false_iff, beq_eq_false_iff_ne, beq_eq_false_iff_ne]
      omega
end Mine
end
section
/-! part PlE -/
open PySem PySem.W PyProof.Rows PySem.Spec PySem.Calls PyProof.V StrLaws Builtin.Str
set_option maxRecDepth 100000
namespace Mine
theorem item_beq (l : List Nat) (i : Int) {k : Nat} (hk : k < l.length) (h : seqIndex? i (mkS l).length = some k) : (Txt.item (mkS l) i == Str.ofString ".") = (l[k]? == some 46) := by
  unfold Txt.item Txt.charAt
  rw [h, dot_mk]
  have e : (mkS l).cps[k]? = l[k]? := by unfold mkS; simp
  show ((mkS [((mkS l).cps[k]?).getD 0] : PySem.Str) == mkS [46]) = _
  rw [e, mk_beq, List.getElem?_eq_getElem hk, Bool.eq_iff_iff, beq_iff_eq, beq_iff_eq]
  simp
def hdnL (l : List Nat) : Bool := !ipv4L l && (!l.isEmpty && (!(l.head? == some 46) && !(l.getLast? == some 46)))
theorem hdn_mk (l : List Nat) : hdn (mkS l) = hdnL l := by
  unfold hdn hdnL
  have e0 : ipv4 (mkS l) = ipv4L l := rfl
  rw [e0]
  cases hi : ipv4L l with
  | true => rfl
  | false =>
    have e1 : (mkS l == Str.ofString "") = l.isEmpty := by
      have : Str.ofString "" = mkS [] := by decide
      rw [this, mk_beq]; cases l <;> rfl
    rw [e1]
    cases hl : l.isEmpty with
    | true => rfl
    | false =>
      have hne : l ≠ [] := by rintro rfl; simp at hl
      have hp := List.length_pos_iff.mpr hne
      have h1 := item_beq l 0 (k := 0) hp (seqIndex_nonneg (Int.le_refl 0) (by rw [mkS_len]; omega))
      have h2 := item_beq l (-1) (k := l.length - 1) (by omega) (by
        have := seqIndex_neg (i := -1) (n := (mkS l).length) (by decide) (by rw [mkS_len]; omega)
        rw [this, mkS_len]; congr 1; omega)
      rw [h1, h2, List.getLast?_eq_getElem?, List.head?_eq_getElem?]
      cases l[0]? == some 46 <;> cases l[l.length - 1]? == some 46 <;> rfl
theorem isDigit_fact : ∀ c, c < 128 → (Sre.isDigit c = true → 48 ≤ c ∧ c ≤ 57) := by decide +kernel
/-- a sign that is no digit, no dot and no line feed cuts the search -/
theorem ip_cut {c : Nat} (h1 : Sre.isDigit c = false) (h2 : c ≠ 46) (h3 : c ≠ 10) (t : List Nat) : ∀ p : List Nat, ipv4L (p ++ c :: t) = ipv4L t := by
  have run : ∀ p : List Nat, ∃ d q, digitRun (p ++ c :: t) = d ∧ (p ++ c :: t).drop d = q ++ c :: t := by
    intro p
    induction p with
    | nil => exact ⟨0, [], by show digitRun (c :: t) = 0; unfold digitRun; rw [h1]; rfl, rfl⟩
    | cons a r ih =>
      rw [List.cons_append]
      unfold digitRun
      cases ha : Sre.isDigit a with
      | true =>
        obtain ⟨d, q, e1, e2⟩ := ih
        exact ⟨d + 1, q, by rw [e1]; rfl, by rw [List.drop_succ_cons]; exact e2⟩
      | false => exact ⟨0, a :: r, rfl, rfl⟩
  have ends : ∀ q : List Nat, endsOk (q ++ c :: t) = false := by
    intro q
    cases q with
    | nil =>
      cases t with
      | nil => show (c == 10) = false; rw [beq_eq_false_iff_ne]; exact h3
      | cons => rfl
    | cons a r => cases r <;> rfl
  intro p
  induction p with
  | nil =>
    rw [List.nil_append]
    show (hitAt (c :: t) || ipv4L t) = _
    have : hitAt (c :: t) = false := by
      have : (c == 46) = false := by rw [beq_eq_false_iff_ne]; exact h2
      show (c == 46 && (decide (0 < digitRun t) && endsOk (t.drop (digitRun t)))) = false
      rw [this]; rfl
    rw [this, Bool.false_or]
  | cons a r ih =>
    rw [List.cons_append]
    show (hitAt (a :: (r ++ c :: t)) || ipv4L (r ++ c :: t)) = _
    rw [ih]
    have : hitAt (a :: (r ++ c :: t)) = false := by
      obtain ⟨d, q, e1, e2⟩ := run r
      show (a == 46 && (decide (0 < digitRun (r ++ c :: t)) && endsOk ((r ++ c :: t).drop (digitRun (r ++ c :: t))))) = false
      rw [e1, e2, ends, Bool.and_false, Bool.and_false]
    rw [this, Bool.false_or]
def locL : List Nat := [108, 111, 99, 97, 108]
theorem loc_mk : Str.ofString "local" = mkS locL := by decide
def reachL (l : List Nat) : List Nat := match afterDot l with
  | none => l
  | some b => if hdnL l && (decide (46 ∈ b) || b == locL) then 46 :: b else l
theorem reach_mk (l : List Nat) : reachF (mkS l) = mkS (reachL l) := by
  unfold reachF reachL
  rcases find_mk l with ⟨h1, h2, h3⟩ | ⟨r, h1, h2, h3, h4⟩
  · rw [h1, h3]; rfl
  · rw [h1, h4, decide_eq_true h3, if_pos rfl, hdn_mk, loc_mk, mk_beq]
    have e : decide (0 ≤ Txt.find (mkS r) (Str.ofString ".")) = decide (46 ∈ r) := by
      rcases find_mk r with ⟨_, a2, a3⟩ | ⟨_, _, a2, a3, _⟩
      · rw [a3, decide_eq_false a2]; rfl
      · rw [decide_eq_true a2, decide_eq_true a3]
    rw [e, dot_mk]
    show _ = mkS (if (hdnL l && (decide (46 ∈ r) || r == locL)) = true then 46 :: r else l)
    cases (hdnL l && (decide (46 ∈ r) || r == locL)) with
    | true => rw [if_pos rfl, if_pos rfl, mkS_app]; rfl
    | false => rw [if_neg (by simp), if_neg (by simp)]
def udmL (a b : List Nat) : Bool := if ipv4L a || ipv4L b then a == b else if b.head? == some 46 then endsL a b else a == b
def dmL (a b : List Nat) : Bool := a == b || (hdnL a && (isInfix b (a.drop 1) && ((b.head? == some 46) && hdnL (b.drop 1))))
theorem head_dot (b : List Nat) : Txt.startswith (mkS b) (Str.ofString ".") = (b.head? == some 46) := by
  rw [dot_mk, starts_mk]
  cases b with
  | nil => rfl
  | cons c r =>
    rw [Bool.eq_iff_iff, List.isPrefixOf_iff_prefix, beq_iff_eq, List.cons_prefix_cons]
    simp
    omega
theorem udm_mk {a b : List Nat} (ha : Asc a) (hb : Asc b) : udm (mkS a) (mkS b) = udmL (a.map lo1) (b.map lo1) := by
  unfold udm udmL
  rw [lower_mk ha, lower_mk hb]
  generalize a.map lo1 = x
  generalize b.map lo1 = y
  rw [head_dot, ends_mk, mk_beq]
  have e1 : ipv4 (mkS x) = ipv4L x := rfl
  have e2 : ipv4 (mkS y) = ipv4L y := rfl
  rw [e1, e2]
  cases ipv4L x <;> cases ipv4L y <;> cases (y.head? == some 46) <;> cases (x == y) <;> cases endsL x y <;> rfl
theorem dm_mk {a b : List Nat} (ha : Asc a) (hb : Asc b) : dm (mkS a) (mkS b) = dmL (a.map lo1) (b.map lo1) := by
  unfold dm dmL
  rw [lower_mk ha, lower_mk hb]
  generalize a.map lo1 = x
  generalize b.map lo1 = y
  rw [head_dot, mk_beq, hdn_mk]
  cases hy : (y.head? == some 46) with
  | false =>
    rw [Bool.false_and, Bool.and_false, Bool.and_false, Bool.or_false]
    cases (x == y) <;> cases hdnL x <;> cases (Txt.rfind (mkS x) (mkS y) == -1 || Txt.rfind (mkS x) (mkS y) == 0) <;> rfl
  | true =>
    have hne : y ≠ [] := by rintro rfl; cases hy
    rw [rfind_mk x y hne, tail1_mk hne, hdn_mk]
    cases (x == y) <;> cases hdnL x <;> cases isInfix y (x.drop 1) <;> cases hdnL (y.drop 1) <;> rfl
end Mine
end
section
/-! part PlF -/
open PySem PySem.W PyProof.Rows PySem.Spec PySem.Calls PyProof.V StrLaws Builtin.Str
set_option maxRecDepth 100000
namespace Mine
def Low (l : List Nat) : Prop := ∀ c ∈ l, c < 128 ∧ ¬ (65 ≤ c ∧ c ≤ 90)
theorem case_fact : ∀ c, c < 128 → (¬ (65 ≤ c ∧ c ≤ 90) → lo1 c = c ∧ lo1 (up1 c) = c) ∧ up1 c < 128 ∧ ¬ (97 ≤ up1 c ∧ up1 c ≤ 122) := by decide +kernel
theorem Low.asc {l : List Nat} (h : Low l) : Asc l := fun c hc => (h c hc).1
theorem Low.lo {l : List Nat} (h : Low l) : l.map lo1 = l := by
  conv => rhs; rw [← List.map_id l]
  exact List.map_congr_left fun c hc => ((case_fact c (h c hc).1).1 (h c hc).2).1
theorem Low.back {l : List Nat} (h : Low l) : (l.map up1).map lo1 = l := by
  rw [List.map_map]
  conv => rhs; rw [← List.map_id l]
  exact List.map_congr_left fun c hc => ((case_fact c (h c hc).1).1 (h c hc).2).2
theorem up_asc {l : List Nat} (h : Asc l) : Asc (l.map up1) := fun c hc => by
  obtain ⟨d, hd, rfl⟩ := List.mem_map.mp hc
  exact (case_fact d (h d hd)).2.1
theorem Low.app {a b : List Nat} (h : Low a) (k : Low b) : Low (a ++ b) := fun c hc => by
  rcases List.mem_append.mp hc with hc | hc
  · exact h c hc
  · exact k c hc
theorem loc_low : Low (46 :: locL) := by
  intro c hc
  simp [locL] at hc
  omega
theorem Low.tail {l : List Nat} (h : Low l) (k : Nat) : Low (l.drop k) := fun c hc => h c (List.mem_of_mem_drop hc)
/-- names as the law has them -/
structure Nm2 (nm : Nat → List Nat) : Prop extends Nm nm where
  low : ∀ i, Low (nm i)
  nol : ∀ i, (nm i).head? ≠ some 108
  last : ∀ i, ∃ p c, nm i = p ++ [c] ∧ 97 ≤ c ∧ c ≤ 122
variable {nm : Nat → List Nat}
theorem DL_lowL (N : Nm2 nm) (row : List Nat) : Low (DL nm row) := fun c hc => by
  unfold DL at hc
  obtain ⟨i, _, hi⟩ := List.mem_flatMap.mp hc
  rcases List.mem_cons.mp hi with rfl | hi
  · omega
  · exact N.low i c hi
def LL : List Nat := 46 :: locL
def hostL (nm : Nat → List Nat) (row : List Nat) : List Nat := (DL nm row ++ LL).drop 1
theorem host_cons (nm : Nat → List Nat) (row : List Nat) : 46 :: hostL nm row = DL nm row ++ LL := by
  unfold hostL
  cases row with
  | nil => rfl
  | cons a r => rw [DL_cons]; rfl
theorem host_at (nm : Nat → List Nat) (a : Nat) (r : List Nat) : hostL nm (a :: r) = nm a ++ 46 :: hostL nm r := by
  rw [host_cons]
  unfold hostL
  rw [DL_cons, List.cons_append, List.drop_succ_cons, List.drop_zero, List.append_assoc]
theorem host_low (N : Nm2 nm) (row : List Nat) : Low (hostL nm row) := ((DL_lowL N row).app loc_low).tail 1
theorem cat_flat : ∀ parts : List (List Nat), parts ≠ [] → 46 :: catL [46] parts = parts.flatMap fun p => 46 :: p
  | [], h => absurd rfl h
  | [p], _ => by simp [catL]
  | p :: q :: r, _ => by
    have ih := cat_flat (q :: r) (by simp)
    rw [List.flatMap_cons, ← ih]
    simp [catL]
def rowS (nm : Nat → List Nat) (row : List Nat) : List PySem.Str := row.map fun i => mkS (nm i)
theorem dot_is : dot = mkS [46] := by decide
theorem nil_is : nil₀ = mkS [] := by decide
theorem flat_loc (nm : Nat → List Nat) (row : List Nat) : (row.map nm ++ [locL]).flatMap (fun p => 46 :: p) = DL nm row ++ LL := by
  rw [List.flatMap_append, List.flatMap_map]
  show _ ++ ((46 :: locL) ++ []) = _
  rw [List.append_nil]; rfl
theorem host_row (nm : Nat → List Nat) (row : List Nat) : hostOf (rowS nm row) = mkS (hostL nm row) := by
  unfold hostOf
  have e : rowS nm row ++ [loc₀] = (row.map nm ++ [locL]).map mkS := by
    rw [List.map_append, List.map_map]
    show _ = _ ++ [mkS locL]
    rw [← loc_mk]; rfl
  rw [e, dot_is, join_mk]
  congr 1
  have h := cat_flat (row.map nm ++ [locL]) (by simp)
  rw [flat_loc, ← host_cons] at h
  exact (List.cons.inj h).2
theorem drop_rowS (nm : Nat → List Nat) (row : List Nat) (k : Nat) : (rowS nm row).drop k = rowS nm (row.drop k) := by
  unfold rowS; rw [List.map_drop]
theorem rung_row (nm : Nat → List Nat) (row : List Nat) (k : Nat) : rung (rowS nm row) k = mkS (46 :: hostL nm (row.drop k)) := by
  unfold rung
  rw [drop_rowS]
  generalize row.drop k = r
  have e : [nil₀] ++ rowS nm r ++ [loc₀] = ([] :: (r.map nm ++ [locL])).map mkS := by
    rw [List.map_cons, List.map_append, List.map_map]
    show _ = mkS [] :: (_ ++ [mkS locL])
    rw [← loc_mk, ← nil_is]; rfl
  rw [e, dot_is, join_mk]
  congr 1
  have h := cat_flat (r.map nm ++ [locL]) (by simp)
  rw [flat_loc, ← host_cons] at h
  have e2 : catL [46] ([] :: (r.map nm ++ [locL])) = 46 :: catL [46] (r.map nm ++ [locL]) := by
    rw [catL_cons _ _ (by simp)]; rfl
  rw [e2, h]
theorem tur_row (nm : Nat → List Nat) (row : List Nat) (k : Nat) : tur (rowS nm row) k = mkS (DL nm (row.drop k).reverse) := by
  unfold tur
  rw [drop_rowS]
  generalize row.drop k = r
  have e : [nil₀] ++ (rowS nm r).reverse = ([] :: r.reverse.map nm).map mkS := by
    rw [List.map_cons, List.map_map]
    unfold rowS
    rw [← List.map_reverse, ← nil_is]; rfl
  rw [e, dot_is, join_mk, DL_cat]
/-- a host's shape -/
theorem head_nodot (N : Nm2 nm) (i : Nat) (t : List Nat) : ((nm i ++ t).head? == some 46) = false := by
  have h1 := N.ne i
  have h2 := N.dot i
  cases hn : nm i with
  | nil => exact absurd hn h1
  | cons c r =>
    rw [hn] at h2
    show (some c == some 46) = false
    rw [beq_eq_false_iff_ne]
    intro e
    exact h2 (by rw [Option.some.inj e]; exact List.mem_cons_self)
theorem host_head (N : Nm2 nm) (row : List Nat) : ((hostL nm row).head? == some 46) = false := by
  cases row with
  | nil => rfl
  | cons a r => rw [host_at]; exact head_nodot N a _
theorem host_end (nm : Nat → List Nat) (row : List Nat) : ∃ p, hostL nm row = p ++ [108] := by
  induction row with
  | nil => exact ⟨[108, 111, 99, 97], rfl⟩
  | cons a r ih =>
    obtain ⟨p, e⟩ := ih
    exact ⟨nm a ++ 46 :: p, by rw [host_at, e]; simp⟩
theorem ip_nil : ipv4L [] = false := rfl
theorem ip_l (p : List Nat) : ipv4L (p ++ [108]) = false := by
  rw [ip_cut (by decide +kernel) (by decide) (by decide)]; rfl
theorem host_ip (nm : Nat → List Nat) (row : List Nat) : ipv4L (hostL nm row) = false := by
  obtain ⟨p, e⟩ := host_end nm row
  rw [e, ip_l]
theorem host_hdn (N : Nm2 nm) (row : List Nat) : hdnL (hostL nm row) = true := by
  have h1 := host_ip nm row
  have h2 := host_head N row
  obtain ⟨p, e⟩ := host_end nm row
  unfold hdnL
  rw [h1, h2, e, List.getLast?_append]
  cases p <;> rfl
theorem after_app : ∀ (p r : List Nat), 46 ∉ p → afterDot (p ++ 46 :: r) = some r
  | [], r, _ => rfl
  | c :: p, r, h => by
    show (if c = 46 then _ else afterDot (p ++ 46 :: r)) = _
    rw [if_neg (fun e => h (by rw [e]; exact List.mem_cons_self)), after_app p r fun hm => h (List.mem_cons.mpr (.inr hm))]
theorem reach_host (N : Nm2 nm) (a : Nat) (r : List Nat) : reachL (hostL nm (a :: r)) = 46 :: hostL nm r := by
  unfold reachL
  have h := host_hdn N (a :: r)
  rw [host_at] at h
  rw [host_at, after_app _ _ (N.dot a)]
  have hc : (decide (46 ∈ hostL nm r) || hostL nm r == locL) = true := by
    cases r with
    | nil => rfl
    | cons b s => rw [host_at, decide_eq_true (by simp)]; rfl
  show (if (hdnL (nm a ++ 46 :: hostL nm r) && (decide (46 ∈ hostL nm r) || hostL nm r == locL)) = true then 46 :: hostL nm r else _) = _
  rw [h, hc]; rfl
theorem reach_loc : reachL locL = locL := by decide +kernel
theorem climb_row (N : Nm2 nm) : ∀ row : List Nat, climb (mkS (46 :: hostL nm row)) (row.length + 1) = (List.range (row.length + 1)).map (fun i => mkS (46 :: hostL nm (row.drop i))) ++ [loc₀]
  | [] => by
    show [mkS (46 :: hostL nm []), reachF (tail1 (mkS (46 :: hostL nm [])))] = _
    have e : tail1 (mkS (46 :: hostL nm [])) = mkS locL := tail1_mk (by simp)
    rw [e, reach_mk, reach_loc, ← loc_mk]; rfl
  | a :: r => by
    have ih := climb_row N r
    show mkS (46 :: hostL nm (a :: r)) :: climb (reachF (tail1 (mkS (46 :: hostL nm (a :: r))))) (r.length + 1) = _
    have e : tail1 (mkS (46 :: hostL nm (a :: r))) = mkS (hostL nm (a :: r)) := tail1_mk (by simp)
    rw [e, reach_mk, reach_host N, ih, List.length_cons, List.range_succ_eq_map (n := r.length + 1), List.map_cons, List.map_map]
    rfl
/-- T3 -/
theorem rungs_row (N : Nm2 nm) {row : List Nat} (h : row ≠ []) : rungsAll (rowS nm row) = expect (rowS nm row) := by
  unfold rungsAll expect
  have hl : (rowS nm row).length = row.length := List.length_map ..
  rw [hl, host_row, reach_mk]
  cases row with
  | nil => exact absurd rfl h
  | cons a r =>
    rw [reach_host N, List.length_cons, climb_row N r]
    show _ :: (_ ++ _) = _ :: (_ ++ _)
    congr 2
    refine List.map_congr_left fun i _ => ?_
    rw [rung_row, List.drop_succ_cons]
end Mine
end
section
/-! part PlG -/
open PySem PySem.W PyProof.Rows PySem.Spec PySem.Calls PyProof.V StrLaws Builtin.Str
set_option maxRecDepth 100000
namespace Mine
variable {nm : Nat → List Nat}
theorem DL_inj (N : Nm2 nm) : ∀ (a b : List Nat), (∀ i ∈ a, i < 3) → (∀ i ∈ b, i < 3) → DL nm a = DL nm b → a = b
  | [], [], _, _, _ => rfl
  | [], b :: s, _, _, h => by rw [DL_cons] at h; exact absurd h.symm (by simp [DL])
  | a :: r, [], _, _, h => by rw [DL_cons] at h; exact absurd h (by simp [DL])
  | a :: r, b :: s, ha, hb, h => by
    rw [DL_cons, DL_cons] at h
    have h2 := (List.cons.inj h).2
    have e : a = b := head_pre N.toNm (ha a List.mem_cons_self) (hb b List.mem_cons_self) (t := DL nm s) (by rw [← h2]; exact List.prefix_append _ _)
    subst e
    rw [DL_inj N r s (fun i hi => ha i (List.mem_cons.mpr (.inr hi))) (fun i hi => hb i (List.mem_cons.mpr (.inr hi))) (List.append_cancel_left h2)]
theorem DL_rev_len (nm : Nat → List Nat) : ∀ l : List Nat, (DL nm l.reverse).length = (DL nm l).length
  | [] => rfl
  | a :: r => by
    rw [List.reverse_cons, DL_app, List.length_append, DL_rev_len nm r, show a :: r = [a] ++ r from rfl, DL_app nm [a] r, List.length_append, Nat.add_comm]
theorem beq_row (N : Nm2 nm) {a b : List Nat} (ha : ∀ i ∈ a, i < 3) (hb : ∀ i ∈ b, i < 3) (t : List Nat) : (DL nm a ++ t == DL nm b ++ t) = (a == b) := by
  rw [Bool.eq_iff_iff, beq_iff_eq, beq_iff_eq]
  exact ⟨fun h => DL_inj N a b ha hb (List.append_cancel_right h), fun h => by rw [h]⟩
theorem beq_host (N : Nm2 nm) {a b : List Nat} (ha : ∀ i ∈ a, i < 3) (hb : ∀ i ∈ b, i < 3) : (hostL nm a == hostL nm b) = (a == b) := by
  rw [← beq_row N ha hb LL, ← host_cons, ← host_cons, Bool.eq_iff_iff, beq_iff_eq, beq_iff_eq]
  exact ⟨fun h => by rw [h], fun h => (List.cons.inj h).2⟩
theorem Loc_mk : Loc₀ = mkS [46, 76, 111, 99, 97, 108] := by decide
theorem Loc_low : ([46, 76, 111, 99, 97, 108] : List Nat).map lo1 = LL := by decide
theorem Loc_asc : Asc [46, 76, 111, 99, 97, 108] := by decide
theorem asc_app {a b : List Nat} (ha : Asc a) (hb : Asc b) : Asc (a ++ b) := fun c hc => by
  rcases List.mem_append.mp hc with hc | hc
  · exact ha c hc
  · exact hb c hc
theorem great_row (N : Nm2 nm) (row : List Nat) : great (rowS nm row) = mkS ((hostL nm row).map up1) := by
  unfold great
  rw [host_row, upper_mk (host_low N row).asc]
theorem LL_ip (p : List Nat) : ipv4L (p ++ LL) = false := by
  have : p ++ LL = (p ++ [46, 108, 111, 99, 97]) ++ [108] := by simp [LL, locL]
  rw [this, ip_l]
/-- the first of the sayings -/
theorem said_zero (N : Nm2 nm) {row : List Nat} (hr : ∀ i ∈ row, i < 3) (hne : row ≠ []) : udm (great (rowS nm row)) (tail1 (tur (rowS nm row) 0) ++ Loc₀) = palinR row 0 := by
  have hr' : ∀ i ∈ row.reverse, i < 3 := fun i hi => hr i (List.mem_reverse.mp hi)
  have hne' : DL nm row.reverse ≠ [] := by
    cases hq : row.reverse with
    | nil => exact absurd (List.reverse_eq_nil_iff.mp hq) hne
    | cons a r => rw [DL_cons]; simp
  have hd : (DL nm row.reverse).drop 1 ++ LL = hostL nm row.reverse := by
    unfold hostL
    rw [List.drop_append_of_le_length (List.length_pos_iff.mpr hne')]
  have hlow := host_low N row
  rw [great_row N, tur_row, List.drop_zero, tail1_mk hne', Loc_mk, mkS_app, udm_mk (up_asc hlow.asc) (asc_app ((DL_lowL N _).tail 1).asc Loc_asc), hlow.back, List.map_append, ((DL_lowL N _).tail 1).lo, Loc_low, hd]
  unfold udmL
  rw [host_ip, host_ip, host_head N, beq_host N hr hr']
  unfold palinR
  rw [List.drop_zero, Bool.eq_iff_iff]
  simp only [Bool.or_self, Bool.false_eq_true, if_false, beq_iff_eq]
  exact ⟨fun h => h.symm, fun h => h.symm⟩
theorem host_cut (nm : Nat → List Nat) (a : Nat) (r s : List Nat) : hostL nm ((a :: r) ++ s) = (nm a ++ DL nm r) ++ (DL nm s ++ LL) := by
  rw [List.cons_append, host_at, host_cons, DL_app]; simp
theorem said_next (N : Nm2 nm) {row : List Nat} (hr : ∀ i ∈ row, i < 3) {k : Nat} (h1 : 1 ≤ k) (h2 : k ≤ row.length) : udm (great (rowS nm row)) (tur (rowS nm row) k ++ Loc₀) = palinR row k := by
  have hlow := host_low N row
  have hd : ∀ i ∈ row.drop k, i < 3 := fun i hi => hr i (List.mem_of_mem_drop hi)
  have hd' : ∀ i ∈ (row.drop k).reverse, i < 3 := fun i hi => hd i (List.mem_reverse.mp hi)
  rw [great_row N, tur_row, Loc_mk, mkS_app, udm_mk (up_asc hlow.asc) (asc_app (DL_lowL N _).asc Loc_asc), hlow.back, List.map_append, (DL_lowL N _).lo, Loc_low]
  have hh : ((DL nm (row.drop k).reverse ++ LL).head? == some 46) = true := by
    rw [← host_cons]; rfl
  unfold udmL
  rw [host_ip, LL_ip, hh]
  simp only [Bool.or_self, Bool.false_eq_true, if_false, if_true]
  obtain ⟨a, r, e⟩ : ∃ a r, row.take k = a :: r := by
    cases ht : row.take k with
    | nil => have := congrArg List.length ht; rw [List.length_take, List.length_nil] at this; omega
    | cons a r => exact ⟨a, r, rfl⟩
  have e2 : hostL nm row = (nm a ++ DL nm r) ++ (DL nm (row.drop k) ++ LL) := by
    rw [← host_cut, ← e, List.take_append_drop]
  unfold endsL palinR
  have hlen := DL_rev_len nm (row.drop k)
  rw [e2, decide_eq_true (by simp only [List.length_append]; omega), Bool.true_and]
  have e3 : ((nm a ++ DL nm r) ++ (DL nm (row.drop k) ++ LL)).length - (DL nm (row.drop k).reverse ++ LL).length = (nm a ++ DL nm r).length := by
    simp only [List.length_append]; omega
  rw [e3, List.drop_left, beq_row N hd hd', Bool.eq_iff_iff, beq_iff_eq, beq_iff_eq]
  exact ⟨fun h => h.symm, fun h => h.symm⟩
theorem rowS_len (nm : Nat → List Nat) (row : List Nat) : (rowS nm row).length = row.length := List.length_map ..
theorem turs_cons (nm : Nat → List Nat) (row : List Nat) : turs (rowS nm row) = tur (rowS nm row) 0 :: (List.range row.length).map fun i => tur (rowS nm row) (i + 1) := by
  unfold turs
  rw [rowS_len]
  generalize tur (rowS nm row) = T
  rw [List.range_succ_eq_map, List.map_cons, List.map_map]
  rfl
theorem said_map {α : Type} (F : α → Bool) (T : Nat → α) (P : Nat → Bool) (n : Nat) (h : ∀ i, i < n → F (T (i + 1)) = P (i + 1)) : P 0 :: ((List.range n).map fun i => T (i + 1)).map F = (List.range (n + 1)).map P := by
  rw [List.range_succ_eq_map, List.map_cons, List.map_map, List.map_map]
  congr 1
  exact List.map_congr_left fun i hi => h i (List.mem_range.mp hi)
/-- T4 -/
theorem said_row (N : Nm2 nm) {row : List Nat} (hr : ∀ i ∈ row, i < 3) (hne : row ≠ []) : said (rowS nm row) = (List.range (row.length + 1)).map (palinR row) := by
  have h0 := said_zero N hr hne
  have h1 : ∀ i, i < row.length → udm (great (rowS nm row)) (tur (rowS nm row) (i + 1) ++ Loc₀) = palinR row (i + 1) := fun i hi => said_next N hr (by omega) (by omega)
  unfold said
  rw [h0, turs_cons, List.drop_succ_cons, List.drop_zero]
  generalize great (rowS nm row) = G at h1 ⊢
  rw [said_map (fun t => udm G (t ++ Loc₀)) (tur (rowS nm row)) (palinR row) row.length h1]
/-- names in a row, behind dots -/
theorem inf_skip (X : List Nat) : ∀ (u t : List Nat), 46 ∉ u → isInfix (46 :: X) (u ++ t) = isInfix (46 :: X) t
  | [], t, _ => rfl
  | c :: u, t, h => by
    rw [List.cons_append]
    show (List.isPrefixOf (46 :: X) (c :: (u ++ t)) || isInfix (46 :: X) (u ++ t)) = _
    have : List.isPrefixOf (46 :: X) (c :: (u ++ t)) = false := by
      rw [Bool.eq_false_iff, Ne, List.isPrefixOf_iff_prefix, List.cons_prefix_cons]
      exact fun e => h (by rw [← e.1]; exact List.mem_cons_self)
    rw [this, Bool.false_or, inf_skip X u t fun hm => h (List.mem_cons.mpr (.inr hm))]
theorem pre_DL (N : Nm2 nm) : ∀ (p q : List Nat), (∀ i ∈ p, i < 3) → (∀ i ∈ q, i < 3) → List.isPrefixOf (DL nm p) (DL nm q ++ LL) = List.isPrefixOf p q
  | [], q, _, _ => by
    have : DL nm [] = [] := rfl
    rw [this]; cases q <;> rfl
  | a :: p, [], hp, _ => by
    rw [DL_cons]
    have : List.isPrefixOf (a :: p) [] = false := rfl
    rw [this, Bool.eq_false_iff, Ne, List.isPrefixOf_iff_prefix]
    intro h
    have h' : 46 :: (nm a ++ DL nm p) <+: 46 :: locL := h
    rw [List.cons_prefix_cons] at h'
    obtain ⟨t, ht⟩ := h'.2
    have h3 := N.nol a
    have h4 := N.ne a
    cases hn : nm a with
    | nil => exact h4 hn
    | cons c s =>
      rw [hn] at h3 ht
      have : (c :: s ++ DL nm p ++ t).head? = locL.head? := by rw [ht]
      exact h3 this
  | a :: p, b :: q, hp, hq => by
    have ih := pre_DL N p q (fun i hi => hp i (List.mem_cons.mpr (.inr hi))) (fun i hi => hq i (List.mem_cons.mpr (.inr hi)))
    rw [Bool.eq_iff_iff, List.isPrefixOf_iff_prefix, List.isPrefixOf_iff_prefix] at ih
    rw [DL_cons, DL_cons, Bool.eq_iff_iff, List.isPrefixOf_iff_prefix, List.isPrefixOf_iff_prefix, List.cons_append, List.cons_prefix_cons, List.cons_prefix_cons, ← ih]
    constructor
    · rintro ⟨_, h⟩
      have e : a = b := head_pre N.toNm (hp a List.mem_cons_self) (hq b List.mem_cons_self) (t := DL nm q ++ LL) (by
        have h1 : nm a <+: nm a ++ DL nm p := List.prefix_append _ _
        rw [← List.append_assoc]
        exact h1.trans h)
      subst e
      refine ⟨rfl, ?_⟩
      rw [List.append_assoc] at h
      exact (List.prefix_append_right_inj _).mp h
    · rintro ⟨rfl, h⟩
      refine ⟨rfl, ?_⟩
      rw [List.append_assoc]
      exact (List.prefix_append_right_inj _).mpr h
theorem inf_DL (N : Nm2 nm) {p : List Nat} (hp : ∀ i ∈ p, i < 3) (hne : p ≠ []) : ∀ (q : List Nat), (∀ i ∈ q, i < 3) → isInfix (DL nm p) (DL nm q ++ LL) = isInfix p q := by
  obtain ⟨a, r, rfl⟩ : ∃ a r, p = a :: r := by
    cases p with
    | nil => exact absurd rfl hne
    | cons a r => exact ⟨a, r, rfl⟩
  intro q
  induction q with
  | nil =>
    intro _
    have h := pre_DL N (a :: r) [] hp (fun _ h => nomatch h)
    show (List.isPrefixOf (DL nm (a :: r)) (DL nm [] ++ LL) || isInfix (DL nm (a :: r)) locL) = _
    rw [h, DL_cons]
    have : isInfix (46 :: (nm a ++ DL nm r)) (locL ++ []) = isInfix (46 :: (nm a ++ DL nm r)) [] := inf_skip _ _ _ (by decide)
    rw [List.append_nil] at this
    rw [this]; rfl
  | cons b s ih =>
    intro hq
    have h := pre_DL N (a :: r) (b :: s) hp hq
    have ih := ih fun i hi => hq i (List.mem_cons.mpr (.inr hi))
    rw [DL_cons nm b s, List.cons_append, List.append_assoc] at h ⊢
    show (List.isPrefixOf (DL nm (a :: r)) (46 :: (nm b ++ (DL nm s ++ LL))) || isInfix (DL nm (a :: r)) (nm b ++ (DL nm s ++ LL))) = (List.isPrefixOf (a :: r) (b :: s) || isInfix (a :: r) s)
    rw [h]
    congr 1
    rw [DL_cons nm a r] at ih ⊢
    rw [inf_skip _ _ _ (N.dot b), ih]
theorem ip_low (p : List Nat) {c : Nat} (h1 : 97 ≤ c) (h2 : c ≤ 122) (t : List Nat) : ipv4L (p ++ c :: t) = ipv4L t :=
  ip_cut (by
    cases h : Sre.isDigit c with
    | false => rfl
    | true => have := isDigit_fact c (by omega) h; omega) (by omega) (by omega) t p
theorem DL_end (N : Nm2 nm) (a : Nat) (r : List Nat) : ∃ p c, nm a ++ DL nm r = p ++ [c] ∧ 97 ≤ c ∧ c ≤ 122 := by
  rcases List.eq_nil_or_concat r with rfl | ⟨s, b, rfl⟩
  · obtain ⟨p, c, e, h⟩ := N.last a
    exact ⟨p, c, by rw [e]; simp [DL], h⟩
  · obtain ⟨p, c, e, h⟩ := N.last b
    refine ⟨nm a ++ (DL nm s ++ 46 :: p), c, ?_, h⟩
    rw [List.concat_eq_append, DL_app, DL_cons, e]; simp [DL]
theorem tail_hdn (N : Nm2 nm) (a : Nat) (r : List Nat) : hdnL (nm a ++ DL nm r) = true := by
  have h := head_nodot N a (DL nm r)
  obtain ⟨p, c, e, h1, h2⟩ := DL_end N a r
  unfold hdnL
  rw [h, e, ip_low p h1 h2, List.getLast?_append]
  have : (some c == some 46) = false := by rw [beq_eq_false_iff_ne]; intro e; have := Option.some.inj e; omega
  show (!ipv4L [] && (!(p ++ [c]).isEmpty && (!false && !(some c == some 46)))) = true
  rw [this]
  cases p <;> rfl
/-- T5 -/
theorem found_one' (N : Nm2 nm) {row : List Nat} (hr : ∀ i ∈ row, i < 3) {k : Nat} (h2 : k < row.length) : dm (great (rowS nm row)) (tur (rowS nm row) k) = isInfix (row.drop k).reverse (row.drop 1) := by
  have hlow := host_low N row
  have hd : ∀ i ∈ row.drop k, i < 3 := fun i hi => hr i (List.mem_of_mem_drop hi)
  have hd' : ∀ i ∈ (row.drop k).reverse, i < 3 := fun i hi => hd i (List.mem_reverse.mp hi)
  rw [great_row N, tur_row, dm_mk (up_asc hlow.asc) (DL_lowL N _).asc, hlow.back, (DL_lowL N _).lo]
  have hne : (row.drop k).reverse ≠ [] := by
    intro h
    have := congrArg List.length h
    rw [List.length_reverse, List.length_drop] at this
    simp at this; omega
  generalize hp : (row.drop k).reverse = p at hd' hne ⊢
  obtain ⟨a, r, rfl⟩ : ∃ a r, p = a :: r := by
    cases p with
    | nil => exact absurd rfl hne
    | cons a r => exact ⟨a, r, rfl⟩
  obtain ⟨b, s, rfl⟩ : ∃ b s, row = b :: s := by
    cases row with
    | nil => simp at h2
    | cons b s => exact ⟨b, s, rfl⟩
  have hs : ∀ i ∈ s, i < 3 := fun i hi => hr i (List.mem_cons.mpr (.inr hi))
  unfold dmL
  have hh := host_head N (b :: s)
  have e1 : (hostL nm (b :: s) == DL nm (a :: r)) = false := by
    rw [beq_eq_false_iff_ne]
    intro e
    rw [e, DL_cons] at hh
    simp at hh
  have e2 : ((DL nm (a :: r)).head? == some 46) = true := by rw [DL_cons]; rfl
  have e3 : hdnL ((DL nm (a :: r)).drop 1) = true := by rw [DL_cons]; exact tail_hdn N a r
  rw [e1, host_hdn N, e2, e3, Bool.false_or, Bool.true_and, Bool.and_true, Bool.and_true, host_at, host_cons]
  obtain ⟨c, t, hc⟩ : ∃ c t, nm b = c :: t := by
    cases hn : nm b with
    | nil => exact absurd hn (N.ne b)
    | cons c t => exact ⟨c, t, rfl⟩
  have hdt := N.dot b
  rw [hc] at hdt ⊢
  show isInfix (DL nm (a :: r)) (t ++ (DL nm s ++ LL)) = isInfix (a :: r) s
  rw [DL_cons nm a r, inf_skip _ _ _ (fun hm => hdt (List.mem_cons.mpr (.inr hm))), ← DL_cons nm a r]
  exact inf_DL N hd' hne s hs
theorem found_row (N : Nm2 nm) {row : List Nat} (hr : ∀ i ∈ row, i < 3) : found (rowS nm row) = (List.range row.length).map fun k => isInfix (row.drop k).reverse (row.drop 1) := by
  unfold found turs
  rw [rowS_len, ← List.map_take, List.map_map, List.take_range, Nat.min_eq_left (by omega)]
  refine List.map_congr_left fun k hk => ?_
  exact found_one' N hr (List.mem_range.mp hk)
end Mine
end
section
/-! part PlH -/
open PySem PySem.W PyProof.Rows PySem.Spec PySem.Calls PyProof.V StrLaws Builtin.Str
set_option maxRecDepth 100000
namespace Mine
section
variable {f g h : Nat}
theorem nm2_ok (S : Signs f g h) : Nm2 (nmL f g h) := by
  have hf := signs_facts f (small_sub f S.mf)
  have hg := signs_facts g S.mg
  have hh := signs_facts h S.mh
  have hs := small_facts f S.mf
  refine ⟨nm_ok S, fun i => ?_, fun i => ?_, fun i => ?_⟩
  · intro c hc
    match i with
    | 0 => simp [nmL] at hc; omega
    | 1 => simp [nmL] at hc; omega
    | i + 2 => simp [nmL] at hc; omega
  · match i with
    | 0 => simp [nmL]; omega
    | 1 => simp [nmL]; omega
    | i + 2 => simp [nmL]; omega
  · match i with
    | 0 => exact ⟨[], f, rfl, hs.1, hs.2⟩
    | 1 => exact ⟨[g], f, rfl, hs.1, hs.2⟩
    | i + 2 => exact ⟨[h, g], f, rfl, hs.1, hs.2⟩
theorem strOk_mk {l : List Nat} (h : Asc l) : PyData.strOk (mkS l) = true := by
  unfold PyData.strOk
  rw [← Array.all_toList, mkS_list]
  exact List.all_eq_true.mpr fun c hc => decide_eq_true (by have := h c hc; omega)
theorem ok_mk {l : List Nat} (h : Asc l) (hz : l.length ≤ 4000000) : Ok (mkS l) := by
  refine ⟨by rw [mkS_len]; exact hz, ?_⟩
  rw [lower_mk h, mkS_len, List.length_map]; omega
theorem fold_step_len : ∀ (xs row : List Nat), (xs.foldl stepR row).length + 1 ≤ (row.length + 1) * 2 ^ xs.length
  | [], row => by simp
  | x :: r, row => by
    have ih := fold_step_len r (stepR row x)
    have hs := step_len x row
    rw [List.foldl_cons, List.length_cons, Nat.pow_succ]
    refine Nat.le_trans ih ?_
    rw [Nat.mul_comm (2 ^ r.length) 2, ← Nat.mul_assoc]
    exact Nat.mul_le_mul_right _ (by omega)
theorem fold_sub_len : ∀ (xs row : List Nat), (xs.foldl (fun row x => subR x row) row).length ≤ row.length * 2 ^ xs.length
  | [], row => by simp
  | x :: r, row => by
    have ih := fold_sub_len r (subR x row)
    have hs := sub_len x row
    rw [List.foldl_cons, List.length_cons, Nat.pow_succ]
    refine Nat.le_trans ih ?_
    rw [Nat.mul_comm (2 ^ r.length) 2, ← Nat.mul_assoc]
    exact Nat.mul_le_mul_right _ (by omega)
theorem fold_step_lt : ∀ (xs row : List Nat), (∀ x ∈ xs, x < 3) → (∀ i ∈ row, i < 3) → ∀ i ∈ xs.foldl stepR row, i < 3
  | [], row, _, hr => hr
  | x :: r, row, hx, hr => fold_step_lt r (stepR row x) (fun y hy => hx y (List.mem_cons.mpr (.inr hy))) (step_lt (hx x List.mem_cons_self) hr)
section
variable {xs : List Nat}
theorem head_len (hl : xs.length = 5) {k : Nat} (hk : k ≤ 5) : (headR xs k).length ≤ 31 := by
  have h := fold_step_len (xs.take k).reverse []
  rw [List.length_reverse, List.length_take, Nat.min_eq_left (by omega)] at h
  have : 2 ^ k ≤ 2 ^ 5 := Nat.pow_le_pow_right (by decide) hk
  unfold headR
  simp only [List.length_nil, Nat.zero_add, Nat.one_mul] at h
  omega
theorem head_lt (hx : ∀ x ∈ xs, x < 3) (k : Nat) : ∀ i ∈ headR xs k, i < 3 :=
  fold_step_lt _ _ (fun x h => hx x (List.mem_of_mem_take (List.mem_reverse.mp h))) fun _ h => nomatch h
theorem tail_lt (hx : ∀ x ∈ xs, x < 3) (k : Nat) : ∀ i ∈ tailR xs k, i < 3 :=
  fold_step_lt _ _ (fun x h => hx x (List.mem_of_mem_drop (List.mem_reverse.mp h))) fun _ h => nomatch h
theorem line_lt (hx : ∀ x ∈ xs, x < 3) (hl : xs.length = 5) {k : Nat} (hk : k < 5) : ∀ i ∈ lineR xs k, i < 3 := fun i hi => by
  unfold lineR at hi
  rcases List.mem_append.mp hi with hi | hi
  · exact head_lt hx k i hi
  · rw [List.mem_singleton.mp hi, List.getD_eq_getElem?_getD, List.getElem?_eq_getElem (by omega)]
    exact hx _ (List.getElem_mem _)
end
theorem lab_get (f g h : Nat) {x : Nat} (hx : x < 3) : (labL f g h).getD x dot = mkS (nmL f g h x) := by
  have hc : x = 0 ∨ x = 1 ∨ x = 2 := by omega
  rcases hc with rfl | rfl | rfl <;> rfl
theorem line_row (S : Signs f g h) {xs : List Nat} (hx : ∀ x ∈ xs, x < 3) (hl : xs.length = 5) {k : Nat} (hk : k < 5) : lineOf (labL f g h) xs k = rowS (nmL f g h) (lineR xs k) := by
  have hxk : xs.getD k 9 < 3 := by
    rw [List.getD_eq_getElem?_getD, List.getElem?_eq_getElem (by omega)]
    exact hx _ (List.getElem_mem _)
  unfold lineOf lineR rowS
  rw [head_row S hx (by omega), split_row (nm_ok S), List.drop_succ_cons, List.drop_zero, lab_get f g h hxk, List.map_append]
  rfl
theorem first_spec (row : List Nat) : firstR row ≤ row.length ∧ palinR row (firstR row) = true ∧ ∀ i, i < firstR row → palinR row i = false := by
  unfold firstR
  cases hf : (List.range (row.length + 1)).find? fun i => palinR row i with
  | none =>
    have := List.find?_eq_none.mp hf row.length (List.mem_range.mpr (by omega))
    exact absurd (by unfold palinR; simp) this
  | some j =>
    obtain ⟨h1, h2, h3⟩ := List.find?_range_eq_some.mp hf
    exact ⟨by have := List.mem_range.mp h2; show j ≤ _; omega, h1, fun i hi => by simpa using h3 i hi⟩
structure RowLaw (xs : List Nat) (k : Nat) : Prop where
  size : (lineR xs k).length ≤ 200
  said : ∀ i, i < (lineR xs k).length + 1 → palinR (lineR xs k) i = decide (((lineR xs k).length : Int) - (i : Int) ∈ mirOf xs k)
  found : ∀ i, i < (lineR xs k).length → isInfix ((lineR xs k).drop i).reverse ((lineR xs k).drop 1) = decide (((lineR xs k).length : Int) - (i : Int) ≤ mostR (lineR xs k) (maxR (mirOf xs k)))
  closed : lineR xs k ++ ((lineR xs k).take (firstR (lineR xs k))).reverse = headR xs (k + 1)
  tab : tabR xs k (tailR xs (k + 1)) ++ headR xs (k + 1) = headR xs 5
  mx1 : maxR (mirOf xs k) ∈ mirOf xs k
  mx2 : ∀ z ∈ mirOf xs k, z ≤ maxR (mirOf xs k)
  sz : 0 ≤ (szOf xs k).getD k 0 ∧ (szOf xs k).getD k 0 ≤ 1000
theorem row_ok (S : Signs f g h) {xs : List Nat} (hx : ∀ x ∈ xs, x < 3) (hl : xs.length = 5) {k : Nat} (hk : k < 5) (R : RowLaw xs k) : RowOk (rowS (nmL f g h) (lineR xs k)) (mirOf xs k) (maxR (mirOf xs k)) (firstR (lineR xs k)) := by
  have N := nm2_ok S
  have hlt := line_lt hx hl hk
  have hsz := R.size
  have hne : lineR xs k ≠ [] := by unfold lineR; simp
  have hpos := List.length_pos_iff.mpr hne
  obtain ⟨f1, f2, f3⟩ := first_spec (lineR xs k)
  have hsaid := said_row N hlt hne
  have hDL : ∀ r : List Nat, r.length ≤ 200 → (DL (nmL f g h) r).length ≤ 800 := fun r hr => by have := DL_len (nm_len f g h) r; omega
  have hhost : (hostL (nmL f g h) (lineR xs k)).length ≤ 1000 := by
    have h1 := hDL _ hsz
    have h2 := congrArg List.length (host_cons (nmL f g h) (lineR xs k))
    simp [LL, locL] at h2; omega
  have hrev : ∀ i, ((lineR xs k).drop i).reverse.length ≤ 200 := fun i => by rw [List.length_reverse, List.length_drop]; omega
  have hloc : ([46, 76, 111, 99, 97, 108] : List Nat).length = 6 := rfl
  refine ⟨by rw [rowS_len]; exact hsz, by rw [rowS_len]; exact hpos, ?_, R.mx1, R.mx2, rungs_row N hne, ?_, ?_, ?_, ?_, ?_, ?_, ?_, ?_⟩
  · intro x hx'
    obtain ⟨i, _, rfl⟩ := List.mem_map.mp hx'
    rw [mkS_len]; have := nm_len f g h i; omega
  · intro x hx'
    unfold expect at hx'
    rcases List.mem_append.mp hx' with hx' | hx'
    · rcases List.mem_append.mp hx' with hx' | hx'
      · rw [List.mem_singleton.mp hx', host_row]; exact strOk_mk (host_low N _).asc
      · obtain ⟨i, _, rfl⟩ := List.mem_map.mp hx'
        rw [rung_row]
        refine strOk_mk ?_
        rw [host_cons]
        exact ((DL_lowL N _).app loc_low).asc
    · rw [List.mem_singleton.mp hx']; decide +kernel
  · rw [great_row N]
    exact ok_mk (up_asc (host_low N _).asc) (by rw [List.length_map]; omega)
  · intro t ht
    unfold turs at ht
    obtain ⟨i, _, rfl⟩ := List.mem_map.mp ht
    rw [tur_row, Loc_mk, mkS_app]
    have := hDL _ (hrev i)
    exact ⟨ok_mk (DL_lowL N _).asc (by omega), ok_mk (asc_app (DL_lowL N _).asc Loc_asc) (by rw [List.length_append, hloc]; omega)⟩
  · rw [tur_row, tail1_mk (by
      rw [List.drop_zero]
      cases hq : (lineR xs k).reverse with
      | nil => exact absurd (List.reverse_eq_nil_iff.mp hq) hne
      | cons a r => rw [DL_cons]; simp), Loc_mk, mkS_app]
    have := hDL _ (hrev 0)
    exact ok_mk (asc_app ((DL_lowL N _).tail 1).asc Loc_asc) (by rw [List.length_append, hloc, List.length_drop]; omega)
  · rw [hsaid, found_row N hlt]
    unfold want1 want2 most
    rw [rowS_len]
    have e1 : (List.range ((lineR xs k).length + 1)).map (palinR (lineR xs k)) = (List.range ((lineR xs k).length + 1)).map fun i : Nat => decide (((lineR xs k).length : Int) - (i : Int) ∈ mirOf xs k) :=
      List.map_congr_left fun i hi => R.said i (List.mem_range.mp hi)
    have e2 : (List.range (lineR xs k).length).map (fun i => isInfix ((lineR xs k).drop i).reverse ((lineR xs k).drop 1)) = (List.range (lineR xs k).length).map fun i : Nat => decide (((lineR xs k).length : Int) - (i : Int) ≤ mostR (lineR xs k) (maxR (mirOf xs k))) :=
      List.map_congr_left fun i hi => R.found i (List.mem_range.mp hi)
    rw [e1, e2]
    rfl
  · rw [hsaid, List.length_map, List.length_range]; omega
  · have : (said (rowS (nmL f g h) (lineR xs k)))[firstR (lineR xs k)]? = some true := by
      rw [hsaid, List.getElem?_map, List.getElem?_range (by omega)]
      show some _ = _
      rw [f2]
    exact (List.getElem?_eq_some_iff.mp this).2
  · intro i hi hij
    have : (said (rowS (nmL f g h) (lineR xs k)))[i]? = some false := by
      rw [hsaid, List.getElem?_map, List.getElem?_range (by omega)]
      show some _ = _
      rw [f3 i hij]
    exact (List.getElem?_eq_some_iff.mp this).2
end
end Mine
end
section
/-! part PlI -/
open PySem PySem.W PyProof.Rows PySem.Spec PySem.Calls PyProof.V StrLaws Builtin.Str
set_option maxRecDepth 100000
namespace Mine
section
variable {f g h : Nat}
theorem step_ok (S : Signs f g h) {xs : List Nat} (hx : ∀ x ∈ xs, x < 3) (hl : xs.length = 5) {k : Nat} (hk : k < 5) (R : RowLaw xs k) : StepOk (labL f g h) xs k := by
  have N := nm2_ok S
  have hlt := tail_lt hx (k + 1)
  have htl : (tailR xs (k + 1)).length + 1 ≤ 2 ^ (5 - (k + 1)) := by
    have h := fold_step_len (xs.drop (k + 1)).reverse []
    rw [List.length_reverse, List.length_drop, hl] at h
    unfold tailR
    simpa using h
  have hpow : 2 ^ (5 - (k + 1)) * 2 ^ (k + 1) = 32 := by
    rw [← Nat.pow_add, show 5 - (k + 1) + (k + 1) = 5 by omega]
  have hls : (xs.take (k + 1)).reverse.length = k + 1 := by rw [List.length_reverse, List.length_take, hl]; omega
  have hB : ((2 ^ (5 - (k + 1)) - 1) + 1) * 2 ^ (xs.take (k + 1)).reverse.length ≤ 400 := by
    have h1 : 1 ≤ 2 ^ (5 - (k + 1)) := Nat.one_le_two_pow
    rw [hls, Nat.sub_add_cancel h1, hpow]; decide
  obtain ⟨t1, t2⟩ := tab_row S (xs.take (k + 1)).reverse (tailR xs (k + 1)) (2 ^ (5 - (k + 1)) - 1) (fun x hx' => hx x (List.mem_of_mem_take (List.mem_reverse.mp hx'))) hlt (by omega) hB
  have eT : tailOf (labL f g h) xs (k + 1) = tx f g h (tailR xs (k + 1)) := tail_row S hx (by omega) (by omega)
  have hsub := fold_sub_len (xs.take (k + 1)).reverse (tailR xs (k + 1))
  have hsubl : (tabR xs k (tailR xs (k + 1))).length ≤ 32 := by
    unfold tabR
    refine Nat.le_trans hsub ?_
    rw [hls, ← hpow]
    exact Nat.mul_le_mul_right _ (by omega)
  have eR : repl (tailOf (labL f g h) xs (k + 1)) (tabOf (labL f g h) xs k) = tx f g h (tabR xs k (tailR xs (k + 1))) := by
    rw [eT]; exact t2
  have eH : ∀ j, headOf (labL f g h) xs j = tx f g h (headR xs j) := fun j => head_row S hx (by omega) j
  refine ⟨?_, ?_, R.sz, ⟨maxR (mirOf xs k), firstR (lineR xs k), ?_, ?_⟩, ?_, ?_, ?_, ?_⟩
  · exact (run_row S (xs := xs.take k) (fun x hx' => hx x (List.mem_of_mem_take hx')) (by rw [List.length_take]; omega)).2
  · rw [eH]
    have h1 := tx_len f g h (headR xs k)
    have h2 := head_len hl (k := k) (by omega)
    omega
  · rw [line_row S hx hl hk]
    exact row_ok S hx hl hk R
  · rw [line_row S hx hl hk, eH, split_row (nm_ok S), ← R.closed, List.map_append, List.map_reverse, List.map_take]
    rfl
  · intro x hx'
    rw [eH, split_row (nm_ok S)] at hx'
    rcases List.mem_cons.mp hx' with rfl | hx'
    · decide +kernel
    · obtain ⟨i, _, rfl⟩ := List.mem_map.mp hx'
      exact strOk_mk (N.low i).asc
  · rw [eT]; exact t1
  · rw [eR]
    have := tx_len f g h (tabR xs k (tailR xs (k + 1)))
    omega
  · rw [eR, eH, eH, tx_app, R.tab]
/-- a text in which what is sought never stands -/
theorem split_none {x y : PySem.Str} (hy : 1 ≤ y.length) (hn : ∀ k, ¬ At x y x.length k) : Txt.split x y = [x] := by
  have h0 : occurrences x y 0 x.length (x.length + 1) = [] := by
    rcases occ_head x y (x.length + 1) (by omega) with ⟨h1, _⟩ | ⟨i, r, _, h2, _⟩
    · exact h1
    · exact absurd h2 (hn i)
  unfold Txt.split
  rw [h0]
  split
  · rfl
  · rfl
theorem join_one (z x : PySem.Str) : Txt.join z [x] = x := by
  show glued z [x] = x
  rw [glued_eq_join]; rfl
theorem no_at {l y : List Nat} {c : Nat} (h1 : c ∈ y) (h2 : c ∉ l) : ∀ k, ¬ At (mkS l) (mkS y) (mkS l).length k := fun k ha => by
  have h3 := (at_iff.mp ha).1
  exact h2 (List.mem_of_mem_drop (h3.subset h1))
theorem repl_none {l : List Nat} {c B : Nat} (hc : c ∉ l) (hz : l.length ≤ 10000) : ∀ (rs : List PySem.Str), rs.length % 2 = 0 → (∀ x ∈ rs, x.length ≤ 1000) → (∀ i, 2 * i < rs.length → ∃ y, rs[2 * i]? = some (mkS y) ∧ c ∈ y) → RepOk (mkS l) rs ∧ repl (mkS l) rs = mkS l
  | [], _, _, _ => ⟨trivial, rfl⟩
  | [a], h, _, _ => by simp at h
  | a :: b :: r, he, hb, hh => by
    obtain ⟨y, ey, hy⟩ := hh 0 (by simp)
    have ea : a = mkS y := by simpa using ey
    have hs : Txt.split (mkS l) a = [mkS l] := by
      rw [ea]
      refine split_none ?_ (no_at hy hc)
      rw [mkS_len]; exact List.length_pos_of_mem hy
    obtain ⟨i1, i2⟩ := repl_none (B := B) hc hz r (by simp at he; omega) (fun x hx => hb x (List.mem_cons.mpr (.inr (List.mem_cons.mpr (.inr hx))))) fun i hi => by
      obtain ⟨y, e, hy⟩ := hh (i + 1) (by simp; omega)
      refine ⟨y, ?_, hy⟩
      rw [show 2 * (i + 1) = 2 * i + 1 + 1 by omega, List.getElem?_cons_succ, List.getElem?_cons_succ] at e
      exact e
    have hbl := hb b (by simp)
    refine ⟨⟨?_, ?_, ?_, ?_⟩, ?_⟩
    · rw [ea, mkS_len, beq_eq_false_iff_ne]; have := List.length_pos_of_mem hy; omega
    · rw [mkS_len, sizeLine_eq]; omega
    · rw [hs]
      refine joinOk_of 10000 (fun x hx => ?_) ?_
      · rw [List.mem_singleton.mp hx, mkS_len]; exact hz
      · simp; omega
    · rw [hs, join_one]; exact i1
    · show repl (Txt.join b (Txt.split (mkS l) a)) r = _
      rw [hs, join_one, i2]
end
end Mine
end
section
/-! part PlJ -/
open PySem PySem.W PyProof.Rows PySem.Spec PySem.Calls PyProof.V StrLaws Builtin.Str
set_option maxRecDepth 100000
namespace Mine
section
variable {f g h : Nat}
theorem f_in (f g h : Nat) (i : Nat) : f ∈ nmL f g h i := by
  match i with
  | 0 => simp [nmL]
  | 1 => simp [nmL]
  | i + 2 => simp [nmL]
theorem f_tx (f g h : Nat) (a : Nat) (r : List Nat) : f ∈ DL (nmL f g h) (a :: r) := by
  rw [DL_cons]
  exact List.mem_cons.mpr (.inr (List.mem_append.mpr (.inl (f_in f g h a))))
theorem side_mem (f g h : Nat) (x : Nat) : ∀ z ∈ (sdOf (labL f g h)).getD x [], ∃ a r, z = tx f g h (a :: r) ∧ r.length ≤ 1 := by
  rw [sides_are]
  intro z hz
  match x with
  | 0 => simp at hz; rcases hz with rfl | rfl | rfl | rfl <;> exact ⟨_, _, rfl, by simp⟩
  | 1 => simp at hz; rcases hz with rfl | rfl | rfl | rfl <;> exact ⟨_, _, rfl, by simp⟩
  | 2 => simp at hz; rcases hz with rfl | rfl | rfl | rfl <;> exact ⟨_, _, rfl, by simp⟩
  | x + 3 => simp at hz
theorem loud_mk (S : Signs f g h) {xs : List Nat} (hx : ∀ x ∈ xs, x < 3) (hl : xs.length = 5) : loudOf (labL f g h) xs = mkS (32 :: ((DL (nmL f g h) (headR xs 5)).map up1 ++ [10])) := by
  unfold loudOf
  rw [head_row S hx (by omega), upper_mk (DL_lowL (nm2_ok S) _).asc]
  have e1 : S' " " = mkS [32] := by decide
  have e2 : S' "\n" = mkS [10] := by decide
  rw [e1, e2, mkS_app, mkS_app]
  simp
theorem loud_free (S : Signs f g h) (row : List Nat) : f ∉ 32 :: ((DL (nmL f g h) row).map up1 ++ [10]) := by
  have hs := small_facts f S.mf
  intro hm
  rcases List.mem_cons.mp hm with hm | hm
  · omega
  · rcases List.mem_append.mp hm with hm | hm
    · obtain ⟨c, hc, e⟩ := List.mem_map.mp hm
      have h1 := (case_fact c (DL_lowL (nm2_ok S) row c hc).1).2.2
      rw [e] at h1
      exact h1 hs
    · have := List.mem_singleton.mp hm; omega
theorem loud_ok (S : Signs f g h) {xs : List Nat} (hx : ∀ x ∈ xs, x < 3) (hl : xs.length = 5) : RepOk (loudOf (labL f g h) xs) (tabOf (labL f g h) xs 4) ∧ repl (loudOf (labL f g h) xs) (tabOf (labL f g h) xs 4) = loudOf (labL f g h) xs := by
  have hlen := head_len hl (k := 5) (by omega)
  have hDL := DL_len (nm_len f g h) (headR xs 5)
  rw [loud_mk S hx hl]
  have hmem : ∀ z ∈ tabOf (labL f g h) xs 4, ∃ a r, z = tx f g h (a :: r) ∧ r.length ≤ 1 := by
    intro z hz
    obtain ⟨x, _, hz⟩ := List.mem_flatMap.mp hz
    exact side_mem f g h x z hz
  have hT := (show (tabOf (labL f g h) xs 4).length ≤ 30 ∧ (tabOf (labL f g h) xs 4).length % 2 = 0 from tab_facts _ _ _ hl 4)
  refine repl_none (B := 0) (loud_free S _) ?_ _ hT.2 (fun z hz => ?_) fun i hi => ?_
  · simp only [List.length_cons, List.length_append, List.length_map, List.length_nil]; omega
  · obtain ⟨a, r, rfl, hr⟩ := hmem z hz
    have := tx_len f g h (a :: r)
    simp only [List.length_cons] at this; omega
  · have hm := List.getElem_mem hi
    obtain ⟨a, r, e, _⟩ := hmem _ hm
    exact ⟨_, by rw [List.getElem?_eq_getElem hi, e], f_tx f g h a r⟩
theorem less_mk (f g h : Nat) : lessText (labL f g h) = mkS [f, f, f, 32] ∧ lessArgs (labL f g h) = [mkS [f, f], mkS [g], mkS [32], mkS []] := by
  have e1 : S' " " = mkS [32] := by decide
  constructor
  · unfold lessText
    rw [e1]; rfl
  · unfold lessArgs
    rw [e1, nil_is]
    congr 2
theorem less_ok (S : Signs f g h) : RepOk (lessText (labL f g h)) (lessArgs (labL f g h)) ∧ repl (lessText (labL f g h)) (lessArgs (labL f g h)) = ⟨#[g, f]⟩ := by
  obtain ⟨e1, e2⟩ := less_mk f g h
  rw [e1, e2]
  have hf := signs_facts f (small_sub f S.mf)
  have hg := signs_facts g S.mg
  have s1 : Txt.split (mkS [f, f, f, 32]) (mkS [f, f]) = [mkS [], mkS [f, 32]] := by
    have h := split_tight (y := [f, f]) (by simp) (parts := [[], [f, 32]]) ⟨fun k hk => absurd hk (Nat.not_lt_zero _), fun k hp => ?_⟩ (by
      rw [kind_one, kind_one]
      · omega
      · intro c hc; simp at hc; omega
      · intro c hc; simp [catL] at hc; omega)
    · exact h
    · match k, hp with
      | 0, hp =>
        rw [List.drop_zero, List.cons_prefix_cons, List.cons_prefix_cons] at hp
        omega
      | 1, hp => have := hp.length_le; simp at this
      | k + 2, hp => have := hp.length_le; simp at this
  have s2 : Txt.split (mkS [g, f, 32]) (mkS [32]) = [mkS [g, f], mkS []] := by
    have h := split_tight (y := [32]) (by simp) (parts := [[g, f], []]) (tight_free (by simp) fun p hp => by
      simp at hp
      rcases hp with rfl | rfl
      · simp; omega
      · simp) (by
      rw [kind_one, kind_one]
      · omega
      · intro c hc; simp at hc; omega
      · intro c hc; simp [catL] at hc; omega)
    exact h
  have j1 : Txt.join (mkS [g]) [mkS [], mkS [f, 32]] = mkS [g, f, 32] := join_mk [g] (parts := [[], [f, 32]])
  have j2 : Txt.join (mkS []) [mkS [g, f], mkS []] = mkS [g, f] := join_mk [] (parts := [[g, f], []])
  have hl : ∀ l : List Nat, (mkS l).length = l.length := mkS_len
  refine ⟨⟨?_, ?_, ?_, ?_, ?_, ?_, ?_⟩, ?_⟩
  · rw [mkS_len]; rfl
  · rw [mkS_len, sizeLine_eq]; simp
  · rw [s1]
    refine joinOk_of 10 (fun x hx => ?_) ?_
    · simp at hx; rcases hx with rfl | rfl <;> rw [mkS_len] <;> simp
    · simp [mkS_len]
  · rw [mkS_len]; rfl
  · rw [s1, j1, mkS_len, sizeLine_eq]; simp
  · rw [s1, j1, s2]
    refine joinOk_of 10 (fun x hx => ?_) ?_
    · simp at hx; rcases hx with rfl | rfl <;> rw [mkS_len] <;> simp
    · simp [mkS_len]
  · trivial
  · show Txt.join (mkS []) (Txt.split (Txt.join (mkS [g]) (Txt.split (mkS [f, f, f, 32]) (mkS [f, f]))) (mkS [32])) = _
    rw [s1, j1, s2, j2]; rfl
end
end Mine
end
section
/-! part PlK -/
open PySem PySem.W PyProof.Rows PySem.Spec PySem.Calls PyProof.V StrLaws Builtin.Str
set_option maxRecDepth 100000
namespace Mine
/-- what is known of the three signs -/
structure Sg (f g h : Nat) : Prop where
  f1 : 97 ≤ f
  f2 : f ≤ 122
  g1 : g < 128
  h1 : h < 128
  gd : g ≠ 46
  hd : h ≠ 46
  gc : ¬ (65 ≤ g ∧ g ≤ 90)
  hc : ¬ (65 ≤ h ∧ h ≤ 90)
theorem sg_of {f g h : Nat} (S : Signs f g h) : Sg f g h := by
  have hf := small_facts f S.mf
  have hg := signs_facts g S.mg
  have hh := signs_facts h S.mh
  exact ⟨hf.1, hf.2, hg.1, hh.1, hg.2.1, hh.2.1, hg.2.2.2.2.2, hh.2.2.2.2.2⟩
section
variable {f g h : Nat}
abbrev nL (f g h : Nat) : List Nat := [f, 46, g, f, 46, h, g, f]
abbrev xL (f g h : Nat) : List Nat := [46, h, g, f]
abbrev cL (f g h : Nat) : List Nat := [h, g, f]
theorem low_of {l : List Nat} (T : Sg f g h) (hl : ∀ c ∈ l, c = f ∨ c = g ∨ c = h ∨ c = 46 ∨ (48 ≤ c ∧ c ≤ 57) ∨ (97 ≤ c ∧ c ≤ 122)) : Low l := fun c hc => by
  have h1 := hl c hc
  have := T.f1; have := T.f2; have := T.g1; have := T.h1; have := T.gc; have := T.hc
  omega
theorem n_low (T : Sg f g h) : Low (nL f g h) := low_of T (by simp)
theorem x_low (T : Sg f g h) : Low (xL f g h) := low_of T (by simp)
theorem c_low (T : Sg f g h) : Low (cL f g h) := low_of T (by simp)
theorem bare_mk (f g h : Nat) : bareOf (mkS [f]) (mkS [g, f]) (mkS [h, g, f]) = mkS (nL f g h) := by
  have e := join_mk [46] (parts := [[f], [g, f], [h, g, f]])
  unfold bareOf
  rw [dot_is]
  exact e
theorem lowOf_mk (f g h : Nat) : lowOf (mkS [h, g, f]) = mkS (xL f g h) := by
  unfold lowOf
  have : S' "." = mkS [46] := by decide
  rw [this, mkS_app]; rfl
/-- cuts behind the last f -/
theorem ip_f (T : Sg f g h) (p t : List Nat) : ipv4L (p ++ f :: t) = ipv4L t := ip_low p T.f1 T.f2 t
theorem ip_n (T : Sg f g h) (t : List Nat) : ipv4L (nL f g h ++ t) = ipv4L t := ip_f T [f, 46, g, f, 46, h, g] t
theorem ip_x (T : Sg f g h) (t : List Nat) : ipv4L (xL f g h ++ t) = ipv4L t := ip_f T [46, h, g] t
theorem ip_c (T : Sg f g h) (t : List Nat) : ipv4L (cL f g h ++ t) = ipv4L t := ip_f T [h, g] t
theorem hdn_of {l : List Nat} (h1 : ipv4L l = false) (h2 : (l.head? == some 46) = false) (h3 : (l.getLast? == some 46) = false) (h4 : l ≠ []) : hdnL l = true := by
  unfold hdnL
  rw [h1, h2, h3]
  cases l with
  | nil => exact absurd rfl h4
  | cons a r => rfl
theorem hdn_ip {l : List Nat} (h1 : ipv4L l = true) : hdnL l = false := by unfold hdnL; rw [h1]; rfl
theorem hdn_last {l : List Nat} (h : (l.getLast? == some 46) = true) : hdnL l = false := by unfold hdnL; rw [h]; simp
theorem hdn_first {l : List Nat} (h : (l.head? == some 46) = true) : hdnL l = false := by unfold hdnL; rw [h]; simp
theorem hdn_n (T : Sg f g h) {t : List Nat} (h1 : ipv4L t = false) (h2 : ((nL f g h ++ t).getLast? == some 46) = false) : hdnL (nL f g h ++ t) = true :=
  hdn_of (by rw [ip_n T, h1]) (by have := T.f2; have := T.f1; simp; omega) h2 (by simp)
/-- reach -/
theorem reach_stay {l : List Nat} (h : hdnL l = false) : reachL l = l := by
  unfold reachL
  rw [h]
  cases afterDot l <;> rfl
theorem reach_stay2 {p b : List Nat} (h1 : 46 ∉ p) (h2 : 46 ∉ b) (h3 : b.length ≠ 5 ∨ b = [76, 79, 67, 65, 76]) : reachL (p ++ 46 :: b) = p ++ 46 :: b := by
  unfold reachL
  rw [after_app _ _ h1]
  have : (b == locL) = false := by
    rw [beq_eq_false_iff_ne]
    rintro rfl
    rcases h3 with h3 | h3
    · exact h3 rfl
    · exact absurd h3 (by decide)
  show (if (hdnL _ && (decide (46 ∈ b) || b == locL)) = true then _ else _) = _
  rw [this, decide_eq_false h2]; simp
theorem reach_go {p b : List Nat} (h1 : 46 ∉ p) (h2 : 46 ∈ b) (h3 : hdnL (p ++ 46 :: b) = true) : reachL (p ++ 46 :: b) = 46 :: b := by
  unfold reachL
  rw [after_app _ _ h1]
  show (if (hdnL _ && (decide (46 ∈ b) || b == locL)) = true then _ else _) = _
  rw [h3, decide_eq_true h2]; rfl
def waysL (f g h : Nat) : List (List Nat) := [nL f g h ++ [46, 57, 48, 56, 55], nL f g h ++ [46], [g, f] ++ 46 :: [h, g, f], [h, g, f] ++ 46 :: [76, 79, 67, 65, 76], [h, g, f] ++ 46 :: ([h, g, f] ++ locL), [h, g, f] ++ 46 :: (locL ++ [h, g, f]), [h, g, f] ++ 46 :: xL f g h, [h, g, f] ++ 46 :: (nL f g h).map up1]
def climbedL (f g h : Nat) : List (List Nat) := [nL f g h ++ [46, 57, 48, 56, 55], nL f g h ++ [46], [g, f] ++ 46 :: [h, g, f], [h, g, f] ++ 46 :: [76, 79, 67, 65, 76], [h, g, f] ++ 46 :: ([h, g, f] ++ locL), [h, g, f] ++ 46 :: (locL ++ [h, g, f]), 46 :: xL f g h, 46 :: (nL f g h).map up1]
theorem lits : S' ".9087" = mkS [46, 57, 48, 56, 55] ∧ S' "." = mkS [46] ∧ S' ".LOCAL" = mkS [46, 76, 79, 67, 65, 76] ∧ S' "local" = mkS locL ∧ S' ".local" = mkS (46 :: locL) := by decide
theorem ways_mk (T : Sg f g h) : ways (mkS [f]) (mkS [g, f]) (mkS [h, g, f]) = (waysL f g h).map mkS ∧ climbed (mkS [f]) (mkS [g, f]) (mkS [h, g, f]) = (climbedL f g h).map mkS := by
  obtain ⟨l1, l2, l3, l4, l5⟩ := lits
  unfold ways climbed stays2 stays1
  rw [bare_mk, lowOf_mk, upper_mk (n_low T).asc, l1, l2, l3, l4, l5]
  simp only [mkS_app]
  exact ⟨rfl, rfl⟩
theorem up_f (T : Sg f g h) : Sre.isDigit (up1 f) = false ∧ up1 f ≠ 46 ∧ up1 f ≠ 10 := by
  have h1 := T.f1
  have h2 := T.f2
  have e : up1 f = f - 32 := by unfold up1; rw [if_pos ⟨h1, h2⟩]
  refine ⟨?_, by omega, by omega⟩
  cases hd : Sre.isDigit (up1 f) with
  | false => rfl
  | true => have := isDigit_fact _ (by omega) hd; omega
theorem climb_ok (T : Sg f g h) : (waysL f g h).map reachL = climbedL f g h := by
  have h1 := T.f1
  have h2 := T.f2
  have h3 := T.gd
  have h4 := T.hd
  have ec : 46 ∉ cL f g h := by simp; omega
  have eb : 46 ∉ [g, f] := by simp; omega
  have e1 : reachL (nL f g h ++ [46, 57, 48, 56, 55]) = nL f g h ++ [46, 57, 48, 56, 55] := reach_stay (hdn_ip (by rw [ip_n T]; decide +kernel))
  have e2 : reachL (nL f g h ++ [46]) = nL f g h ++ [46] := reach_stay (hdn_last rfl)
  have e3 : reachL ([g, f] ++ 46 :: [h, g, f]) = [g, f] ++ 46 :: [h, g, f] := reach_stay2 eb ec (.inl (by simp))
  have e4 : reachL ([h, g, f] ++ 46 :: [76, 79, 67, 65, 76]) = [h, g, f] ++ 46 :: [76, 79, 67, 65, 76] := reach_stay2 ec (by decide) (.inr rfl)
  have e5 : reachL ([h, g, f] ++ 46 :: ([h, g, f] ++ locL)) = [h, g, f] ++ 46 :: ([h, g, f] ++ locL) := reach_stay2 ec (fun hm => by
    rcases List.mem_append.mp hm with hm | hm
    · exact ec hm
    · exact absurd hm (by decide)) (.inl (by simp [locL]))
  have e6 : reachL ([h, g, f] ++ 46 :: (locL ++ [h, g, f])) = [h, g, f] ++ 46 :: (locL ++ [h, g, f]) := reach_stay2 ec (fun hm => by
    rcases List.mem_append.mp hm with hm | hm
    · exact absurd hm (by decide)
    · exact ec hm) (.inl (by simp [locL]))
  have e7 : reachL ([h, g, f] ++ 46 :: xL f g h) = 46 :: xL f g h := reach_go ec (by simp) (hdn_of (by
      rw [show [h, g, f] ++ 46 :: xL f g h = [h, g, f, 46, 46, h, g] ++ f :: [] from rfl, ip_f T]; rfl) (by simp; omega) (by simp; omega) (by simp))
  have e8 : reachL ([h, g, f] ++ 46 :: (nL f g h).map up1) = 46 :: (nL f g h).map up1 := by
    obtain ⟨u1, u2, u3⟩ := up_f T
    refine reach_go ec (by simp [up1]) (hdn_of ?_ (by simp; omega) ?_ (by simp))
    · rw [show [h, g, f] ++ 46 :: (nL f g h).map up1 = ([h, g, f] ++ 46 :: [f, 46, g, f, 46, h, g].map up1) ++ up1 f :: [] from rfl, ip_cut u1 u2 u3]; rfl
    · rw [show [h, g, f] ++ 46 :: (nL f g h).map up1 = ([h, g, f] ++ 46 :: [f, 46, g, f, 46, h, g].map up1) ++ [up1 f] from rfl, List.getLast?_append]
      show (some (up1 f) == some 46) = false
      rw [beq_eq_false_iff_ne]
      exact fun e => u2 (Option.some.inj e)
  unfold waysL climbedL
  rw [List.map_cons, List.map_cons, List.map_cons, List.map_cons, List.map_cons, List.map_cons, List.map_cons, List.map_cons, e1, e2, e3, e4, e5, e6, e7, e8]
  rfl
theorem three_ok (T : Sg f g h) : ThreeOk (mkS [f]) (mkS [g, f]) (mkS [h, g, f]) := by
  obtain ⟨w1, w2⟩ := ways_mk T
  have hn := n_low T
  have hx := x_low T
  have hc := c_low T
  refine ⟨by rw [mkS_len]; simp, by rw [mkS_len]; simp, by rw [mkS_len]; simp, ?_, ?_, ?_, ?_⟩
  · rw [bare_mk, upper_mk hn.asc, mkS_len]; simp
  · rw [lowOf_mk, upper_mk hx.asc, mkS_len]; simp
  · rw [w2]
    intro x hx'
    obtain ⟨l, hl, rfl⟩ := List.mem_map.mp hx'
    refine strOk_mk ?_
    have hup : Asc ((nL f g h).map up1) := up_asc hn.asc
    have hb : Low [g, f] := low_of T (by simp)
    have k1 : Asc [46, 57, 48, 56, 55] := by decide
    have k2 : Asc [46] := by decide
    have k3 : Asc (46 :: [76, 79, 67, 65, 76]) := by decide
    have k4 : Asc (locL ++ []) := by decide
    have k5 : Asc locL := by decide
    have cons : ∀ {l : List Nat}, Asc l → Asc (46 :: l) := fun h => asc_app k2 h
    unfold climbedL at hl
    simp only [List.mem_cons, List.mem_nil_iff, or_false] at hl
    rcases hl with rfl | rfl | rfl | rfl | rfl | rfl | rfl | rfl
    · exact asc_app hn.asc k1
    · exact asc_app hn.asc k2
    · exact asc_app hb.asc (cons hc.asc)
    · exact asc_app hc.asc k3
    · exact asc_app hc.asc (cons (asc_app hc.asc k5))
    · exact asc_app hc.asc (cons (asc_app k5 hc.asc))
    · exact cons hx.asc
    · exact cons hup
  · rw [w1, w2, ← climb_ok T, List.map_map, List.map_map]
    exact List.map_congr_left fun l _ => reach_mk l
end
end Mine
end
section
/-! part PlL -/
open PySem PySem.W PyProof.Rows PySem.Spec PySem.Calls PyProof.V StrLaws Builtin.Str
set_option maxRecDepth 100000
namespace Mine
section
variable {f g h : Nat}
abbrev NUp (f g h : Nat) : List Nat := (nL f g h).map up1
abbrev XUp (f g h : Nat) : List Nat := (xL f g h).map up1
def asksL (f g h : Nat) (N X : List Nat) : List (List Nat × List Nat) :=
  [(nL f g h, N), (xL f g h, X), (nL f g h ++ [46, 55], N ++ [46, 55]), ([], []),
   (nL f g h ++ [50], xL f g h ++ [50]), (nL f g h ++ [46, 55, 46, 97], [46, 97]), (nL f g h ++ [46, 46, 97], [46, 97]),
   (nL f g h ++ [46], xL f g h ++ [46]), ([46] ++ nL f g h, xL f g h), (nL f g h ++ [46, 46, 97], [46, 46, 97]),
   ([97] ++ xL f g h ++ [98], xL f g h), (nL f g h ++ [46, 55, 46, 97], [46, 55]),
   (nL f g h ++ [46, 57, 48, 56, 55], xL f g h ++ [46, 57, 48, 56, 55]), (nL f g h ++ [46, 55], xL f g h), (nL f g h ++ [46, 55, 46, 97], xL f g h ++ [46, 55]),
   (nL f g h, [46] ++ nL f g h), (nL f g h, cL f g h), (nL f g h ++ [46], xL f g h), (nL f g h ++ [46, 46, 97], xL f g h ++ [46]), (nL f g h, [46])]
theorem lits2 : S' ".7" = mkS [46, 55] ∧ S' "2" = mkS [50] ∧ S' ".7.a" = mkS [46, 55, 46, 97] ∧ S' ".a" = mkS [46, 97] ∧ S' "..a" = mkS [46, 46, 97] ∧ S' "a" = mkS [97] ∧ S' "b" = mkS [98] := by decide
theorem asks_mk (T : Sg f g h) : asks (mkS [f]) (mkS [g, f]) (mkS [h, g, f]) = (asksL f g h (NUp f g h) (XUp f g h)).map fun p => (mkS p.1, mkS p.2) := by
  obtain ⟨l1, l2, l3, l4, l5⟩ := lits
  obtain ⟨m1, m2, m3, m4, m5, m6, m7⟩ := lits2
  unfold asks asks1 add2 add3 add4 add5 add6
  rw [bare_mk, lowOf_mk, upper_mk (n_low T).asc, upper_mk (x_low T).asc, l1, l2, m1, m2, m3, m4, m5, m6, m7, nil_is]
  simp only [mkS_app]
  rfl
theorem asks_asc (T : Sg f g h) : ∀ p ∈ asksL f g h (NUp f g h) (XUp f g h), (Asc p.1 ∧ Asc p.2) ∧ p.1.length ≤ 100 ∧ p.2.length ≤ 100 := by
  have hn := (n_low T).asc
  have hx := (x_low T).asc
  have hc := (c_low T).asc
  have un := up_asc hn
  have ux := up_asc hx
  have a0 : Asc [] := by decide
  have a1 : Asc [46, 55] := by decide
  have a2 : Asc [50] := by decide
  have a3 : Asc [46, 55, 46, 97] := by decide
  have a4 : Asc [46, 97] := by decide
  have a5 : Asc [46, 46, 97] := by decide
  have a6 : Asc [97] := by decide
  have a7 : Asc [98] := by decide
  have a8 : Asc [46] := by decide
  have a9 : Asc [46, 57, 48, 56, 55] := by decide
  intro p hp
  unfold asksL at hp
  simp only [List.mem_cons, List.mem_nil_iff, or_false] at hp
  refine ⟨?_, ?_⟩
  · rcases hp with rfl | rfl | rfl | rfl | rfl | rfl | rfl | rfl | rfl | rfl | rfl | rfl | rfl | rfl | rfl | rfl | rfl | rfl | rfl | rfl
    · exact ⟨hn, un⟩
    · exact ⟨hx, ux⟩
    · exact ⟨asc_app hn a1, asc_app un a1⟩
    · exact ⟨a0, a0⟩
    · exact ⟨asc_app hn a2, asc_app hx a2⟩
    · exact ⟨asc_app hn a3, a4⟩
    · exact ⟨asc_app hn a5, a4⟩
    · exact ⟨asc_app hn a8, asc_app hx a8⟩
    · exact ⟨asc_app a8 hn, hx⟩
    · exact ⟨asc_app hn a5, a5⟩
    · exact ⟨asc_app (asc_app a6 hx) a7, hx⟩
    · exact ⟨asc_app hn a3, a1⟩
    · exact ⟨asc_app hn a9, asc_app hx a9⟩
    · exact ⟨asc_app hn a1, hx⟩
    · exact ⟨asc_app hn a3, asc_app hx a1⟩
    · exact ⟨hn, asc_app a8 hn⟩
    · exact ⟨hn, hc⟩
    · exact ⟨asc_app hn a8, hx⟩
    · exact ⟨asc_app hn a5, asc_app hx a8⟩
    · exact ⟨hn, a8⟩
  · rcases hp with rfl | rfl | rfl | rfl | rfl | rfl | rfl | rfl | rfl | rfl | rfl | rfl | rfl | rfl | rfl | rfl | rfl | rfl | rfl | rfl <;> exact ⟨by simp, by simp⟩
theorem asks_lo (T : Sg f g h) : (asksL f g h (NUp f g h) (XUp f g h)).map (fun p => (p.1.map lo1, p.2.map lo1)) = asksL f g h (nL f g h) (xL f g h) := by
  have hn := (n_low T).lo
  have hx := (x_low T).lo
  have hc := (c_low T).lo
  have un := (n_low T).back
  have ux := (x_low T).back
  have a1 : ([46, 55] : List Nat).map lo1 = [46, 55] := by decide
  have a2 : ([50] : List Nat).map lo1 = [50] := by decide
  have a3 : ([46, 55, 46, 97] : List Nat).map lo1 = [46, 55, 46, 97] := by decide
  have a4 : ([46, 97] : List Nat).map lo1 = [46, 97] := by decide
  have a5 : ([46, 46, 97] : List Nat).map lo1 = [46, 46, 97] := by decide
  have a6 : ([97] : List Nat).map lo1 = [97] := by decide
  have a7 : ([98] : List Nat).map lo1 = [98] := by decide
  have a8 : ([46] : List Nat).map lo1 = [46] := by decide
  have a9 : ([46, 57, 48, 56, 55] : List Nat).map lo1 = [46, 57, 48, 56, 55] := by decide
  have a0 : ([] : List Nat).map lo1 = [] := rfl
  unfold asksL
  have step : ∀ (a b : List Nat) (r : List (List Nat × List Nat)), ((a, b) :: r).map (fun p => (p.1.map lo1, p.2.map lo1)) = (a.map lo1, b.map lo1) :: r.map (fun p => (p.1.map lo1, p.2.map lo1)) := fun _ _ _ => rfl
  have last : ([] : List (List Nat × List Nat)).map (fun p => (p.1.map lo1, p.2.map lo1)) = [] := rfl
  rw [step, step, step, step, step, step, step, step, step, step, step, step, step, step, step, step, step, step, step, step, last]
  rw [List.map_append (f := lo1) (l₁ := NUp f g h)]
  rw [un, ux]
  simp only [List.map_append (f := lo1)]
  rw [hn, hx, hc, a0, a1, a2, a3, a4, a5, a6, a7, a8, a9]
/-- user_domain_match -/
theorem ends_self (a : List Nat) : endsL a a = true := by
  unfold endsL
  rw [Nat.sub_self, List.drop_zero]; simp
theorem udm_eq (a : List Nat) : udmL a a = true := by
  unfold udmL
  rw [ends_self]
  have : (a == a) = true := beq_self_eq_true a
  rw [this]; simp
theorem udm_suf {a b : List Nat} (h1 : ipv4L a = false) (h2 : ipv4L b = false) (h3 : (b.head? == some 46) = true) (h4 : endsL a b = true) : udmL a b = true := by
  unfold udmL; rw [h1, h2, h3, h4]; rfl
theorem udm_no {a b : List Nat} (h1 : ipv4L a = false) (h2 : ipv4L b = false) (h3 : (b.head? == some 46) = true) (h4 : endsL a b = false) : udmL a b = false := by
  unfold udmL; rw [h1, h2, h3, h4]; rfl
theorem udm_ip {a b : List Nat} (h1 : (ipv4L a || ipv4L b) = true) (h2 : a.length ≠ b.length) : udmL a b = false := by
  unfold udmL; rw [h1, if_pos rfl, beq_eq_false_iff_ne]; exact fun e => h2 (by rw [e])
theorem udm_other {a b : List Nat} (h3 : (b.head? == some 46) = false) (h2 : a.length ≠ b.length) : udmL a b = false := by
  have : (a == b) = false := by rw [beq_eq_false_iff_ne]; exact fun e => h2 (by rw [e])
  unfold udmL; rw [h3, this]; simp
theorem ends_head {a : List Nat} (p : List Nat) {b : Nat} {t s : List Nat} (e : a = p ++ b :: t) (h : s.length = t.length) (hb : b ≠ 46) : endsL a (46 :: s) = false := by
  unfold endsL
  rw [e]
  have : (p ++ b :: t).length - (46 :: s).length = p.length := by simp; omega
  rw [this, List.drop_left]
  have : (b :: t == 46 :: s) = false := by rw [beq_eq_false_iff_ne]; exact fun e => hb (List.cons.inj e).1
  rw [this, Bool.and_false]
theorem ends_app (p b : List Nat) : endsL (p ++ b) b = true := by
  unfold endsL
  have : (p ++ b).length - b.length = p.length := by simp
  rw [this, List.drop_left]; simp
theorem ends_long {a b : List Nat} (h : a.length < b.length) : endsL a b = false := by
  unfold endsL; rw [decide_eq_false (by omega)]; rfl
theorem map20 {α β : Type} (F : α → β) (a1 a2 a3 a4 a5 a6 a7 a8 a9 a10 a11 a12 a13 a14 a15 a16 a17 a18 a19 a20 : α) : [a1, a2, a3, a4, a5, a6, a7, a8, a9, a10, a11, a12, a13, a14, a15, a16, a17, a18, a19, a20].map F = [F a1, F a2, F a3, F a4, F a5, F a6, F a7, F a8, F a9, F a10, F a11, F a12, F a13, F a14, F a15, F a16, F a17, F a18, F a19, F a20] := rfl
theorem ipn0 (T : Sg f g h) : ipv4L (nL f g h) = false := by have := ip_n T []; rw [List.append_nil] at this; rw [this]; rfl
theorem ipx0 (T : Sg f g h) : ipv4L (xL f g h) = false := by have := ip_x T []; rw [List.append_nil] at this; rw [this]; rfl
theorem asks_u (T : Sg f g h) : (asksL f g h (nL f g h) (xL f g h)).map (fun p => udmL p.1 p.2) = ansU := by
  have f1 := T.f1
  have f2 := T.f2
  have gd := T.gd
  have hd := T.hd
  have fd : f ≠ 46 := by omega
  have i0 := ipn0 T
  have ix := ipx0 T
  have q1 : ipv4L [46, 55] = true := by decide +kernel
  have q2 : ipv4L [50] = false := by decide +kernel
  have q3 : ipv4L [46, 55, 46, 97] = false := by decide +kernel
  have q4 : ipv4L [46, 97] = false := by decide +kernel
  have q5 : ipv4L [46, 46, 97] = false := by decide +kernel
  have q7 : ipv4L [98] = false := by decide +kernel
  have q8 : ipv4L [46] = false := by decide +kernel
  have q9 : ipv4L [46, 57, 48, 56, 55] = true := by decide +kernel
  have in9 : ipv4L ([46] ++ nL f g h) = false := by
    have := ip_f T [46, f, 46, g, f, 46, h, g] []
    exact this.trans rfl
  have i11 : ipv4L ([97] ++ xL f g h ++ [98]) = false := by
    have := ip_f T [97, 46, h, g] [98]
    exact this.trans q7
  unfold asksL ansU
  rw [map20]
  show [udmL (nL f g h) (nL f g h), udmL (xL f g h) (xL f g h), udmL (nL f g h ++ [46, 55]) (nL f g h ++ [46, 55]), udmL [] [],
    udmL (nL f g h ++ [50]) (xL f g h ++ [50]), udmL (nL f g h ++ [46, 55, 46, 97]) [46, 97], udmL (nL f g h ++ [46, 46, 97]) [46, 97],
    udmL (nL f g h ++ [46]) (xL f g h ++ [46]), udmL ([46] ++ nL f g h) (xL f g h), udmL (nL f g h ++ [46, 46, 97]) [46, 46, 97],
    udmL ([97] ++ xL f g h ++ [98]) (xL f g h), udmL (nL f g h ++ [46, 55, 46, 97]) [46, 55],
    udmL (nL f g h ++ [46, 57, 48, 56, 55]) (xL f g h ++ [46, 57, 48, 56, 55]), udmL (nL f g h ++ [46, 55]) (xL f g h), udmL (nL f g h ++ [46, 55, 46, 97]) (xL f g h ++ [46, 55]),
    udmL (nL f g h) ([46] ++ nL f g h), udmL (nL f g h) (cL f g h), udmL (nL f g h ++ [46]) (xL f g h), udmL (nL f g h ++ [46, 46, 97]) (xL f g h ++ [46]), udmL (nL f g h) [46]] =
    [true, true, true, true, true, true, true, true, true, true, false, false, false, false, false, false, false, false, false, false]
  rw [udm_eq, udm_eq, udm_eq, udm_eq]
  rw [udm_suf (a := nL f g h ++ [50]) (by rw [ip_n T, q2]) (by rw [ip_x T, q2]) rfl (ends_app [f, 46, g, f] _)]
  rw [udm_suf (a := nL f g h ++ [46, 55, 46, 97]) (by rw [ip_n T, q3]) q4 rfl (ends_app [f, 46, g, f, 46, h, g, f, 46, 55] _)]
  rw [udm_suf (a := nL f g h ++ [46, 46, 97]) (b := [46, 97]) (by rw [ip_n T, q5]) q4 rfl (ends_app [f, 46, g, f, 46, h, g, f, 46] _)]
  rw [udm_suf (a := nL f g h ++ [46]) (b := xL f g h ++ [46]) (by rw [ip_n T, q8]) (by rw [ip_x T, q8]) rfl (ends_app [f, 46, g, f] _)]
  rw [udm_suf (a := [46] ++ nL f g h) in9 ix rfl (ends_app [46, f, 46, g, f] _)]
  rw [udm_suf (a := nL f g h ++ [46, 46, 97]) (b := [46, 46, 97]) (by rw [ip_n T, q5]) q5 rfl (ends_app _ _)]
  rw [udm_no (a := [97] ++ xL f g h ++ [98]) i11 ix rfl (ends_head [97, 46] (b := h) (t := [g, f, 98]) rfl rfl hd)]
  rw [udm_ip (b := [46, 55]) (by rw [q1, Bool.or_true]) (by simp)]
  rw [udm_ip (a := nL f g h ++ [46, 57, 48, 56, 55]) (by rw [ip_n T, q9, Bool.true_or]) (by simp)]
  rw [udm_ip (a := nL f g h ++ [46, 55]) (b := xL f g h) (by rw [ip_n T, q1, Bool.true_or]) (by simp)]
  rw [udm_ip (b := xL f g h ++ [46, 55]) (by rw [ip_x T, q1, Bool.or_true]) (by simp)]
  rw [udm_no (b := [46] ++ nL f g h) i0 in9 rfl (ends_long (by simp))]
  rw [udm_other (b := cL f g h) (by simp; omega) (by simp)]
  rw [udm_no (a := nL f g h ++ [46]) (b := xL f g h) (by rw [ip_n T, q8]) ix rfl (ends_head [f, 46, g, f, 46] (b := h) (t := [g, f, 46]) rfl rfl hd)]
  rw [udm_no (a := nL f g h ++ [46, 46, 97]) (b := xL f g h ++ [46]) (by rw [ip_n T, q5]) (by rw [ip_x T, q8]) rfl (ends_head [f, 46, g, f, 46, h] (b := g) (t := [f, 46, 46, 97]) (s := [h, g, f, 46]) rfl rfl gd)]
  rw [udm_no (a := nL f g h) (b := [46]) i0 q8 rfl (ends_head [f, 46, g, f, 46, h, g] (b := f) (t := []) rfl rfl fd)]
/-- domain_match -/
theorem dm_eq (a : List Nat) : dmL a a = true := by
  have : (a == a) = true := beq_self_eq_true a
  unfold dmL; rw [this]; rfl
theorem dm_yes {a b : List Nat} (h1 : hdnL a = true) (h2 : isInfix b (a.drop 1) = true) (h3 : (b.head? == some 46) = true) (h4 : hdnL (b.drop 1) = true) : dmL a b = true := by
  unfold dmL; rw [h1, h2, h3, h4]; simp
theorem dm_noA {a b : List Nat} (h : a.length ≠ b.length) (h1 : hdnL a = false) : dmL a b = false := by
  have : (a == b) = false := by rw [beq_eq_false_iff_ne]; exact fun e => h (by rw [e])
  unfold dmL; rw [this, h1]; rfl
theorem dm_noB {a b : List Nat} (h : a.length ≠ b.length) (h1 : hdnL (b.drop 1) = false) : dmL a b = false := by
  have : (a == b) = false := by rw [beq_eq_false_iff_ne]; exact fun e => h (by rw [e])
  unfold dmL; rw [this, h1]; simp
theorem dm_noH {a b : List Nat} (h : a.length ≠ b.length) (h1 : (b.head? == some 46) = false) : dmL a b = false := by
  have : (a == b) = false := by rw [beq_eq_false_iff_ne]; exact fun e => h (by rw [e])
  unfold dmL; rw [this, h1]; simp
theorem dm_noI {a b : List Nat} (h : a.length ≠ b.length) (h1 : isInfix b (a.drop 1) = false) : dmL a b = false := by
  have : (a == b) = false := by rw [beq_eq_false_iff_ne]; exact fun e => h (by rw [e])
  unfold dmL; rw [this, h1]; simp
theorem inf_here {a b : List Nat} : ∀ (p t : List Nat), a = p ++ (b ++ t) → isInfix b a = true
  | [], t, e => by
    rw [e, List.nil_append]
    cases hb : b ++ t with
    | nil =>
      have : b = [] := (List.append_eq_nil_iff.mp hb).1
      rw [this]; rfl
    | cons c r =>
      show (List.isPrefixOf b (c :: r) || _) = true
      have : List.isPrefixOf b (c :: r) = true := by rw [List.isPrefixOf_iff_prefix, ← hb]; exact List.prefix_append _ _
      rw [this]; rfl
  | c :: p, t, e => by
    rw [e, List.cons_append]
    show (_ || isInfix b (p ++ (b ++ t))) = true
    rw [inf_here p t rfl, Bool.or_true]
theorem inf_short {b : List Nat} : ∀ {a : List Nat}, a.length < b.length → isInfix b a = false
  | [], h => by
    cases b with
    | nil => simp at h
    | cons => rfl
  | c :: r, h => by
    show (List.isPrefixOf b (c :: r) || isInfix b r) = false
    rw [inf_short (a := r) (by simp at h; omega), Bool.or_false, Bool.eq_false_iff, Ne, List.isPrefixOf_iff_prefix]
    intro hp
    have := hp.length_le
    omega
theorem asks_d (T : Sg f g h) : (asksL f g h (nL f g h) (xL f g h)).map (fun p => dmL p.1 p.2) = ansD := by
  have f1 := T.f1
  have f2 := T.f2
  have gd := T.gd
  have hd := T.hd
  have fd : f ≠ 46 := by omega
  have i0 := ipn0 T
  have ix := ipx0 T
  have q1 : ipv4L [46, 55] = true := by decide +kernel
  have q2 : ipv4L [50] = false := by decide +kernel
  have q3 : ipv4L [46, 55, 46, 97] = false := by decide +kernel
  have q4 : ipv4L [46, 97] = false := by decide +kernel
  have q5 : ipv4L [46, 46, 97] = false := by decide +kernel
  have q7 : ipv4L [98] = false := by decide +kernel
  have q9 : ipv4L [46, 57, 48, 56, 55] = true := by decide +kernel
  have a5 : hdnL (nL f g h ++ [50]) = true := hdn_n T q2 (by simp)
  have b5 : hdnL ((xL f g h ++ [50]).drop 1) = true := hdn_of ((ip_c T [50]).trans q2) (by simp; omega) (by simp) (by simp)
  have a6 : hdnL (nL f g h ++ [46, 55, 46, 97]) = true := hdn_n T q3 (by simp)
  have a7 : hdnL (nL f g h ++ [46, 46, 97]) = true := hdn_n T q5 (by simp)
  have ba : hdnL (([46, 97] : List Nat).drop 1) = true := by decide +kernel
  have a8 : hdnL (nL f g h ++ [46]) = false := hdn_last (by simp)
  have a9 : hdnL ([46] ++ nL f g h) = false := hdn_first rfl
  have b10 : hdnL (([46, 46, 97] : List Nat).drop 1) = false := by decide +kernel
  have a11 : hdnL ([97] ++ xL f g h ++ [98]) = true := hdn_of ((ip_f T [97, 46, h, g] [98]).trans q7) rfl (by simp) (by simp)
  have b11 : hdnL ((xL f g h).drop 1) = true := hdn_of ((ip_f T [h, g] []).trans rfl) (by simp; omega) (by simp; omega) (by simp)
  have b12 : hdnL (([46, 55] : List Nat).drop 1) = true := by decide +kernel
  have a13 : hdnL (nL f g h ++ [46, 57, 48, 56, 55]) = false := hdn_ip (by rw [ip_n T, q9])
  have a14 : hdnL (nL f g h ++ [46, 55]) = false := hdn_ip (by rw [ip_n T, q1])
  have b15 : hdnL ((xL f g h ++ [46, 55]).drop 1) = false := hdn_ip ((ip_c T [46, 55]).trans q1)
  have b19 : hdnL ((xL f g h ++ [46]).drop 1) = false := hdn_last (by simp)
  have b20 : hdnL (([46] : List Nat).drop 1) = false := by decide +kernel
  unfold asksL ansD
  rw [map20]
  show [dmL (nL f g h) (nL f g h), dmL (xL f g h) (xL f g h), dmL (nL f g h ++ [46, 55]) (nL f g h ++ [46, 55]), dmL [] [],
    dmL (nL f g h ++ [50]) (xL f g h ++ [50]), dmL (nL f g h ++ [46, 55, 46, 97]) [46, 97], dmL (nL f g h ++ [46, 46, 97]) [46, 97],
    dmL (nL f g h ++ [46]) (xL f g h ++ [46]), dmL ([46] ++ nL f g h) (xL f g h), dmL (nL f g h ++ [46, 46, 97]) [46, 46, 97],
    dmL ([97] ++ xL f g h ++ [98]) (xL f g h), dmL (nL f g h ++ [46, 55, 46, 97]) [46, 55],
    dmL (nL f g h ++ [46, 57, 48, 56, 55]) (xL f g h ++ [46, 57, 48, 56, 55]), dmL (nL f g h ++ [46, 55]) (xL f g h), dmL (nL f g h ++ [46, 55, 46, 97]) (xL f g h ++ [46, 55]),
    dmL (nL f g h) ([46] ++ nL f g h), dmL (nL f g h) (cL f g h), dmL (nL f g h ++ [46]) (xL f g h), dmL (nL f g h ++ [46, 46, 97]) (xL f g h ++ [46]), dmL (nL f g h) [46]] =
    [true, true, true, true, true, true, true, false, false, false, true, true, false, false, false, false, false, false, false, false]
  rw [dm_eq, dm_eq, dm_eq, dm_eq]
  rw [dm_yes (a := nL f g h ++ [50]) a5 (inf_here [46, g, f] [] (by simp)) rfl b5]
  rw [dm_yes (a := nL f g h ++ [46, 55, 46, 97]) (b := [46, 97]) a6 (inf_here [46, g, f, 46, h, g, f, 46, 55] [] (by simp)) rfl ba]
  rw [dm_yes (a := nL f g h ++ [46, 46, 97]) (b := [46, 97]) a7 (inf_here [46, g, f, 46, h, g, f, 46] [] (by simp)) rfl ba]
  rw [dm_noA (a := nL f g h ++ [46]) (b := xL f g h ++ [46]) (by simp) a8]
  rw [dm_noA (a := [46] ++ nL f g h) (by simp) a9]
  rw [dm_noB (b := [46, 46, 97]) (by simp) b10]
  rw [dm_yes (a := [97] ++ xL f g h ++ [98]) a11 (inf_here [] [98] (by simp)) rfl b11]
  rw [dm_yes (a := nL f g h ++ [46, 55, 46, 97]) (b := [46, 55]) a6 (inf_here [46, g, f, 46, h, g, f] [46, 97] (by simp)) rfl b12]
  rw [dm_noA (a := nL f g h ++ [46, 57, 48, 56, 55]) (by simp) a13]
  rw [dm_noA (a := nL f g h ++ [46, 55]) (by simp) a14]
  rw [dm_noB (b := xL f g h ++ [46, 55]) (by simp) b15]
  rw [dm_noI (b := [46] ++ nL f g h) (by simp) (inf_short (by simp))]
  rw [dm_noH (b := cL f g h) (by simp) (by simp; omega)]
  rw [dm_noA (a := nL f g h ++ [46]) (b := xL f g h) (by simp) a8]
  rw [dm_noB (b := xL f g h ++ [46]) (by simp) b19]
  rw [dm_noB (b := [46]) (by simp) b20]
theorem judged_ok (T : Sg f g h) : JudgedOk (mkS [f]) (mkS [g, f]) (mkS [h, g, f]) := by
  have ha := asks_asc T
  have hlo := asks_lo T
  refine ⟨three_ok T, ?_, ?_, ?_⟩
  · rw [asks_mk T]
    intro p hp
    obtain ⟨q, hq, rfl⟩ := List.mem_map.mp hp
    obtain ⟨⟨h1, h2⟩, h3, h4⟩ := ha q hq
    exact ⟨ok_mk h1 (by omega), ok_mk h2 (by omega)⟩
  · rw [asks_mk T, ← asks_u T, ← hlo, List.map_map, List.map_map]
    refine List.map_congr_left fun q hq => ?_
    obtain ⟨⟨h1, h2⟩, _⟩ := ha q hq
    exact udm_mk h1 h2
  · rw [asks_mk T, ← asks_d T, ← hlo, List.map_map, List.map_map]
    refine List.map_congr_left fun q hq => ?_
    obtain ⟨⟨h1, h2⟩, _⟩ := ha q hq
    exact dm_mk h1 h2
end
end Mine
end
section
/-! part PlM -/
open PySem PySem.W PyProof.Rows PySem.Spec PySem.Calls PyProof.V StrLaws Builtin.Str
set_option maxRecDepth 100000
namespace Mine
def preL : List Nat → List Nat → Bool
  | [], _ => true
  | _ :: _, [] => false
  | a :: r, b :: s => match Nat.beq a b with
    | true => preL r s
    | false => false
def eqL : List Nat → List Nat → Bool
  | [], [] => true
  | a :: r, b :: s => match Nat.beq a b with
    | true => eqL r s
    | false => false
  | _, _ => false
def infL (p : List Nat) : List Nat → Bool
  | [] => p.isEmpty
  | a :: r => match preL p (a :: r) with
    | true => true
    | false => infL p r
def memL (n : Nat) : List Nat → Bool
  | [] => false
  | a :: r => match Nat.beq n a with
    | true => true
    | false => memL n r
def maxN : List Nat → Nat
  | [] => 0
  | a :: r => Nat.max a (maxN r)
def eqB : Bool → Bool → Bool
  | true, b => b
  | false, b => !b
def saidB (miN : List Nat) (rv : List Nat) : List Nat → Nat → Bool
  | [], n => memL n miN
  | a :: r, n => match eqB (preL (a :: r) rv) (memL n miN) with
    | true => saidB miN rv r (n - 1)
    | false => false
/-- sub, step, cheaply; t is put behind -/
def subN (x : Nat) (t : List Nat) : List Nat → List Nat
  | [] => t
  | i :: r => match Nat.beq i x with
    | true => x :: subN x t r
    | false => x :: i :: subN x t r
def foldN : List Nat → List Nat → List Nat
  | [], row => row
  | x :: r, row => foldN r (subN x [x] row)
def headN (xs : List Nat) (k : Nat) : List Nat := foldN (xs.take k).reverse []
def tailN (xs : List Nat) (k : Nat) : List Nat := foldN (xs.drop k).reverse []
def foldT : List Nat → List Nat → List Nat
  | [], row => row
  | x :: r, row => foldT r (subN x [] row)
def tabN (xs : List Nat) (k : Nat) (row : List Nat) : List Nat := foldT (xs.take (k + 1)).reverse row
def lineN (xs : List Nat) (k : Nat) : List Nat := headN xs k ++ [xs.getD k 9]
def firstN (rv : List Nat) : List Nat → Nat
  | [] => 0
  | a :: r => match preL (a :: r) rv with
    | true => 0
    | false => firstN rv r + 1
def lawX (xs : List Nat) (k : Nat) : Bool :=
  let row := lineN xs k
  let rv := row.reverse
  let n := row.length
  let miN := (mirOf xs k).map Int.toNat
  let M := Nat.min (maxN miN) (n - 1)
  Nat.ble n 200 && (saidB miN rv row n && (infL (rv.take M) (row.drop 1) && (!(infL (rv.take (M + 1)) (row.drop 1)) && (eqL (row ++ (row.take (firstN rv row)).reverse) (headN xs (k + 1)) &&
    (eqL (tabN xs k (tailN xs (k + 1)) ++ headN xs (k + 1)) (headN xs 5) && ((mirOf xs k).all (fun z => decide (0 ≤ z)) && (decide (0 ≤ (szOf xs k).getD k 0) && decide ((szOf xs k).getD k 0 ≤ 1000))))))))

theorem beq_cases (a b : Nat) : (Nat.beq a b = true ∧ a = b) ∨ (Nat.beq a b = false ∧ a ≠ b) := by
  cases h : Nat.beq a b with
  | true => exact .inl ⟨rfl, Nat.eq_of_beq_eq_true h⟩
  | false => exact .inr ⟨rfl, Nat.ne_of_beq_eq_false h⟩
theorem preL_cc (a b : Nat) (r s : List Nat) : preL (a :: r) (b :: s) = match Nat.beq a b with | true => preL r s | false => false := rfl
theorem memL_c (n a : Nat) (r : List Nat) : memL n (a :: r) = match Nat.beq n a with | true => true | false => memL n r := rfl
theorem preL_iff : ∀ (p q : List Nat), preL p q = true ↔ p <+: q
  | [], q => by unfold preL; simp
  | a :: r, [] => by unfold preL; simp
  | a :: r, b :: s => by
    rw [preL_cc, List.cons_prefix_cons, ← preL_iff r s]
    rcases beq_cases a b with ⟨h1, h2⟩ | ⟨h1, h2⟩
    · rw [h1]; simp [h2]
    · rw [h1]; simp [h2]
theorem eqL_eq : ∀ (p q : List Nat), eqL p q = true → p = q
  | [], [], _ => rfl
  | [], b :: s, h => by simp [eqL] at h
  | a :: r, [], h => by simp [eqL] at h
  | a :: r, b :: s, h => by
    unfold eqL at h
    rcases beq_cases a b with ⟨h1, h2⟩ | ⟨h1, h2⟩
    · rw [h1] at h
      rw [h2, eqL_eq r s h]
    · rw [h1] at h; cases h
theorem isInfix_iff (p : List Nat) : ∀ l : List Nat, isInfix p l = true ↔ p <:+: l
  | [] => by
    unfold isInfix
    rw [List.isEmpty_iff, List.infix_nil]
  | a :: r => by
    unfold isInfix
    rw [Bool.or_eq_true, List.isPrefixOf_iff_prefix, isInfix_iff p r, List.infix_cons_iff]
theorem infL_iff (p : List Nat) : ∀ l : List Nat, infL p l = true ↔ p <:+: l
  | [] => by
    unfold infL
    rw [List.isEmpty_iff, List.infix_nil]
  | a :: r => by
    unfold infL
    rw [List.infix_cons_iff, ← preL_iff, ← infL_iff p r]
    cases preL p (a :: r) <;> simp
theorem memL_iff (n : Nat) : ∀ l : List Nat, memL n l = true ↔ n ∈ l
  | [] => by simp [memL]
  | a :: r => by
    rw [memL_c, List.mem_cons, ← memL_iff n r]
    rcases beq_cases n a with ⟨h1, h2⟩ | ⟨h1, h2⟩
    · rw [h1]; simp [h2]
    · rw [h1]; simp [h2]
theorem subN_eq (x : Nat) (t : List Nat) : ∀ row : List Nat, subN x t row = subR x row ++ t
  | [] => rfl
  | i :: r => by
    have ih := subN_eq x t r
    unfold subN
    have e : subR x (i :: r) = (if (i == x) = true then [x] else [x, i]) ++ subR x r := by unfold subR; rw [List.flatMap_cons]
    rw [e]
    rcases beq_cases i x with ⟨h1, h2⟩ | ⟨h1, h2⟩
    · rw [h1]; simp [h2, ih]
    · rw [h1]; simp [h2, ih]
theorem foldN_eq : ∀ (xs row : List Nat), foldN xs row = xs.foldl stepR row
  | [], row => rfl
  | x :: r, row => by
    unfold foldN
    rw [foldN_eq r, subN_eq]; rfl
theorem foldT_eq : ∀ (xs row : List Nat), foldT xs row = xs.foldl (fun row x => subR x row) row
  | [], row => rfl
  | x :: r, row => by
    unfold foldT
    rw [foldT_eq r, subN_eq, List.append_nil]; rfl
theorem headN_eq (xs : List Nat) (k : Nat) : headN xs k = headR xs k := foldN_eq _ _
theorem tailN_eq (xs : List Nat) (k : Nat) : tailN xs k = tailR xs k := foldN_eq _ _
theorem tabN_eq (xs : List Nat) (k : Nat) (row : List Nat) : tabN xs k row = tabR xs k row := foldT_eq _ _
theorem lineN_eq (xs : List Nat) (k : Nat) : lineN xs k = lineR xs k := by unfold lineN lineR; rw [headN_eq]
theorem palin_pre (row : List Nat) (i : Nat) : palinR row i = preL (row.drop i) row.reverse := by
  have e : (row.drop i).reverse = row.reverse.take (row.length - i) := List.reverse_drop
  unfold palinR
  rw [Bool.eq_iff_iff, beq_iff_eq, preL_iff, List.prefix_iff_eq_take, e, List.length_drop]
  exact ⟨fun h => h.symm, fun h => h.symm⟩
theorem said_spec (miN rv : List Nat) : ∀ (row : List Nat) (n : Nat), saidB miN rv row n = true → ∀ i, i ≤ row.length → preL (row.drop i) rv = memL (n - i) miN
  | [], n, h, i, hi => by
    have : i = 0 := by simpa using hi
    subst this
    have h' : memL n miN = true := h
    rw [Nat.sub_zero, h']; rfl
  | a :: r, n, h, i, hi => by
    unfold saidB at h
    cases he : eqB (preL (a :: r) rv) (memL n miN) with
    | false => rw [he] at h; cases h
    | true =>
      rw [he] at h
      cases i with
      | zero =>
        rw [List.drop_zero, Nat.sub_zero]
        revert he
        cases preL (a :: r) rv <;> cases memL n miN <;> intro he <;> first | rfl | cases he
      | succ i =>
        rw [List.drop_succ_cons, said_spec miN rv r (n - 1) h i (by simpa using hi), Nat.sub_sub, Nat.add_comm 1 i]
theorem firstN_spec (rv : List Nat) : ∀ row : List Nat, firstN rv row ≤ row.length ∧ preL (row.drop (firstN rv row)) rv = true ∧ ∀ i, i < firstN rv row → preL (row.drop i) rv = false
  | [] => ⟨Nat.le_refl _, rfl, fun i hi => absurd hi (Nat.not_lt_zero _)⟩
  | a :: r => by
    obtain ⟨h1, h2, h3⟩ := firstN_spec rv r
    unfold firstN
    cases hp : preL (a :: r) rv with
    | true => exact ⟨Nat.zero_le _, hp, fun i hi => absurd hi (Nat.not_lt_zero _)⟩
    | false =>
      refine ⟨by show firstN rv r + 1 ≤ _; rw [List.length_cons]; omega, h2, fun i hi => ?_⟩
      cases i with
      | zero => exact hp
      | succ i => exact h3 i (Nat.lt_of_succ_lt_succ hi)
theorem firstN_eq (row : List Nat) : firstN row.reverse row = firstR row := by
  obtain ⟨a1, a2, a3⟩ := first_spec row
  obtain ⟨b1, b2, b3⟩ := firstN_spec row.reverse row
  rw [← palin_pre] at b2
  rcases Nat.lt_trichotomy (firstN row.reverse row) (firstR row) with h | h | h
  · rw [a3 _ h] at b2; cases b2
  · exact h
  · have := b3 _ h
    rw [← palin_pre, a2] at this; cases this
theorem maxN_eq : ∀ l : List Int, (∀ z ∈ l, 0 ≤ z) → ((maxN (l.map Int.toNat) : Nat) : Int) = maxR l
  | [], _ => rfl
  | a :: r, h => by
    have ih := maxN_eq r fun z hz => h z (List.mem_cons.mpr (.inr hz))
    have ha := h a List.mem_cons_self
    show ((Nat.max a.toNat (maxN (r.map Int.toNat)) : Nat) : Int) = max a (maxR r)
    rw [← ih]
    show ((max a.toNat (maxN (r.map Int.toNat)) : Nat) : Int) = _
    omega
theorem maxR_ge : ∀ (l : List Int), ∀ z ∈ l, z ≤ maxR l
  | a :: r, z, hz => by
    show z ≤ max a (maxR r)
    rcases List.mem_cons.mp hz with rfl | hz
    · omega
    · have := maxR_ge r z hz; omega
theorem maxR_in : ∀ (l : List Int), maxR l = 0 ∨ maxR l ∈ l
  | [] => .inl rfl
  | a :: r => by
    show max a (maxR r) = 0 ∨ max a (maxR r) ∈ a :: r
    rcases maxR_in r with h | h
    · rw [h]
      rcases Int.le_total a 0 with ha | ha
      · exact .inl (by omega)
      · exact .inr (by rw [show max a 0 = a by omega]; exact List.mem_cons_self)
    · rcases Int.le_total a (maxR r) with ha | ha
      · exact .inr (by rw [show max a (maxR r) = maxR r by omega]; exact List.mem_cons.mpr (.inr h))
      · exact .inr (by rw [show max a (maxR r) = a by omega]; exact List.mem_cons_self)
theorem mir_zero (xs : List Nat) (k : Nat) : (0 : Int) ∈ mirOf xs k := by unfold mirOf; simp
theorem law_of {xs : List Nat} {k : Nat} (h : lawX xs k = true) : RowLaw xs k := by
  unfold lawX at h
  simp only [Bool.and_eq_true] at h
  rw [lineN_eq, headN_eq, headN_eq, tailN_eq, tabN_eq] at h
  obtain ⟨h1, h2, h3, h4, h5, h6, h7, h8, h9⟩ := h
  have hnn : ∀ z ∈ mirOf xs k, 0 ≤ z := fun z hz => of_decide_eq_true (List.all_eq_true.mp h7 z hz)
  have hM := maxN_eq (mirOf xs k) hnn
  have hsaid := said_spec _ _ _ _ h2
  rw [firstN_eq] at h5
  have hpos : 1 ≤ (lineR xs k).length := by unfold lineR; simp
  generalize hrow : lineR xs k = row at *
  have hmost : mostR row (maxR (mirOf xs k)) = ((Nat.min (maxN ((mirOf xs k).map Int.toNat)) (row.length - 1) : Nat) : Int) := by
    unfold mostR
    rw [← hM]
    show _ = ((min (maxN ((mirOf xs k).map Int.toNat)) (row.length - 1) : Nat) : Int)
    split <;> omega
  have hMle : Nat.min (maxN ((mirOf xs k).map Int.toNat)) (row.length - 1) ≤ row.length - 1 := Nat.min_le_right _ _
  generalize Nat.min (maxN ((mirOf xs k).map Int.toNat)) (row.length - 1) = M at *
  refine ⟨?_, ?_, ?_, ?_, eqL_eq _ _ h6, ?_, maxR_ge _, of_decide_eq_true h8, of_decide_eq_true h9⟩
  · rw [hrow]; exact Nat.le_of_ble_eq_true h1
  · intro i hi
    rw [hrow] at hi ⊢
    rw [palin_pre, hsaid i (by omega), Bool.eq_iff_iff, memL_iff, decide_eq_true_eq]
    constructor
    · intro hm
      obtain ⟨z, hz, e⟩ := List.mem_map.mp hm
      have := hnn z hz
      have e2 : ((row.length : Int) - (i : Int)) = z := by omega
      rw [e2]; exact hz
    · intro hm
      exact List.mem_map.mpr ⟨_, hm, by omega⟩
  · intro i hi
    rw [hrow] at hi ⊢
    have e : (row.drop i).reverse = row.reverse.take (row.length - i) := List.reverse_drop
    rw [hmost, e, Bool.eq_iff_iff, isInfix_iff, decide_eq_true_eq]
    have mono : ∀ m m', m ≤ m' → row.reverse.take m <+: row.reverse.take m' := fun m m' hm => by
      rw [← Nat.min_eq_left hm, ← List.take_take]; exact List.take_prefix _ _
    constructor
    · intro hinf
      refine Int.not_lt.mp fun hlt => ?_
      have h4' : infL (row.reverse.take (M + 1)) (row.drop 1) = false := by simpa using h4
      have : infL (row.reverse.take (M + 1)) (row.drop 1) = true := (infL_iff _ _).mpr ((mono (M + 1) (row.length - i) (by omega)).isInfix.trans hinf)
      rw [this] at h4'; cases h4'
    · intro hle
      exact (mono (row.length - i) M (by omega)).isInfix.trans ((infL_iff _ _).mp h3)
  · rw [hrow]; exact eqL_eq _ _ h5
  · rcases maxR_in (mirOf xs k) with e | e
    · rw [e]; exact mir_zero xs k
    · exact e
end Mine
end
section
/-! part PlS -/
open PySem PySem.W PyProof.Rows PySem.Spec PySem.Calls PyProof.V StrLaws Builtin.Str
set_option maxRecDepth 100000
namespace Mine
/-- letters renamed -/
structure Ren (σ : Nat → Nat) : Prop where
  inj : ∀ a b, σ a = σ b → a = b
  nine : σ 9 = 9
section
variable {σ : Nat → Nat}
theorem Ren.beq (R : Ren σ) (a b : Nat) : (σ a == σ b) = (a == b) := by
  rw [Bool.eq_iff_iff, beq_iff_eq, beq_iff_eq]
  exact ⟨R.inj a b, fun h => by rw [h]⟩
theorem Ren.lists (R : Ren σ) {a b : List Nat} : a.map σ = b.map σ ↔ a = b := List.map_inj_right fun x y h => R.inj x y h
theorem Ren.beqL (R : Ren σ) (a b : List Nat) : (a.map σ == b.map σ) = (a == b) := by
  rw [Bool.eq_iff_iff, beq_iff_eq, beq_iff_eq]; exact R.lists
theorem sub_map (R : Ren σ) (x : Nat) : ∀ row : List Nat, subR (σ x) (row.map σ) = (subR x row).map σ
  | [] => rfl
  | i :: r => by
    have ih := sub_map R x r
    unfold subR at ih ⊢
    rw [List.map_cons, List.flatMap_cons, List.flatMap_cons, List.map_append, ih, R.beq]
    congr 1
    split <;> rfl
theorem step_map (R : Ren σ) (x : Nat) (row : List Nat) : stepR (row.map σ) (σ x) = (stepR row x).map σ := by
  unfold stepR; rw [sub_map R, List.map_append]; rfl
theorem fold_map (R : Ren σ) : ∀ (xs row : List Nat), (xs.map σ).foldl stepR (row.map σ) = (xs.foldl stepR row).map σ
  | [], _ => rfl
  | x :: r, row => by rw [List.map_cons, List.foldl_cons, List.foldl_cons, step_map R, fold_map R r]
theorem foldT_map (R : Ren σ) : ∀ (xs row : List Nat), (xs.map σ).foldl (fun row x => subR x row) (row.map σ) = (xs.foldl (fun row x => subR x row) row).map σ
  | [], _ => rfl
  | x :: r, row => by rw [List.map_cons, List.foldl_cons, List.foldl_cons, sub_map R, foldT_map R r]
theorem head_map (R : Ren σ) (xs : List Nat) (k : Nat) : headR (xs.map σ) k = (headR xs k).map σ := by
  unfold headR
  rw [← List.map_take, ← List.map_reverse]; exact fold_map R _ []
theorem tail_map (R : Ren σ) (xs : List Nat) (k : Nat) : tailR (xs.map σ) k = (tailR xs k).map σ := by
  unfold tailR
  rw [← List.map_drop, ← List.map_reverse]; exact fold_map R _ []
theorem tab_map (R : Ren σ) (xs : List Nat) (k : Nat) (row : List Nat) : tabR (xs.map σ) k (row.map σ) = (tabR xs k row).map σ := by
  unfold tabR
  rw [← List.map_take, ← List.map_reverse]; exact foldT_map R _ _
theorem getD_map (R : Ren σ) (xs : List Nat) (k : Nat) : (xs.map σ).getD k 9 = σ (xs.getD k 9) := by
  rw [List.getD_eq_getElem?_getD, List.getD_eq_getElem?_getD, List.getElem?_map]
  cases xs[k]? with
  | none => exact R.nine.symm
  | some a => rfl
theorem line_map (R : Ren σ) (xs : List Nat) (k : Nat) : lineR (xs.map σ) k = (lineR xs k).map σ := by
  unfold lineR
  rw [head_map R, getD_map R, List.map_append]; rfl
theorem past_map (R : Ren σ) (xs : List Nat) (sz : List Int) (k : Nat) : pastOf (xs.map σ) sz k = pastOf xs sz k := by
  unfold pastOf
  congr 1
  refine List.filter_congr fun n _ => ?_
  rw [getD_map R, getD_map R, R.beq]
theorem sz_map (R : Ren σ) (xs : List Nat) : ∀ k, szOf (xs.map σ) k = szOf xs k
  | 0 => rfl
  | k + 1 => by
    unfold szOf stepOf
    rw [sz_map R xs k, past_map R]
theorem mir_map (R : Ren σ) (xs : List Nat) (k : Nat) : mirOf (xs.map σ) k = mirOf xs k := by
  unfold mirOf
  rw [sz_map R, past_map R]
theorem palin_map (R : Ren σ) (row : List Nat) (i : Nat) : palinR (row.map σ) i = palinR row i := by
  unfold palinR
  rw [← List.map_drop, ← List.map_reverse, R.beqL]
theorem first_map (R : Ren σ) (row : List Nat) : firstR (row.map σ) = firstR row := by
  unfold firstR
  rw [List.length_map, show (fun i => palinR (row.map σ) i) = fun i => palinR row i from funext fun i => palin_map R row i]
theorem pre_map (R : Ren σ) : ∀ p q : List Nat, List.isPrefixOf (p.map σ) (q.map σ) = List.isPrefixOf p q
  | [], q => by rw [List.map_nil]; cases q <;> rfl
  | a :: p, [] => rfl
  | a :: p, b :: q => by
    show (σ a == σ b && List.isPrefixOf (p.map σ) (q.map σ)) = (a == b && List.isPrefixOf p q)
    rw [R.beq, pre_map R p q]
theorem inf_map (R : Ren σ) (p : List Nat) : ∀ q : List Nat, isInfix (p.map σ) (q.map σ) = isInfix p q
  | [] => by
    show (p.map σ).isEmpty = p.isEmpty
    cases p <;> rfl
  | a :: q => by
    show (List.isPrefixOf (p.map σ) ((a :: q).map σ) || isInfix (p.map σ) (q.map σ)) = (List.isPrefixOf p (a :: q) || isInfix p q)
    rw [pre_map R, inf_map R p q]
theorem law_sym (R : Ren σ) {xs : List Nat} {k : Nat} (h : RowLaw (xs.map σ) k) : RowLaw xs k := by
  obtain ⟨h1, h2, h3, h4, h5, h6, h7, h8⟩ := h
  rw [line_map R] at h1 h2 h3 h4
  rw [mir_map R] at h2 h3 h6 h7
  rw [sz_map R] at h8
  rw [List.length_map] at h1 h2 h3
  refine ⟨h1, fun i hi => ?_, fun i hi => ?_, ?_, ?_, h6, h7, h8⟩
  · rw [← h2 i hi, palin_map R]
  · have h := h3 i hi
    rw [← List.map_drop, ← List.map_reverse, ← List.map_drop, inf_map R] at h
    rw [h]
    unfold mostR
    rw [List.length_map]
  · rw [head_map R, first_map R, ← List.map_take, ← List.map_reverse, ← List.map_append] at h4
    exact R.lists.mp h4
  · rw [tail_map R, tab_map R, head_map R, head_map R, ← List.map_append] at h5
    exact R.lists.mp h5
end
def ren (a b c : Nat) (i : Nat) : Nat := match i with
  | 0 => a
  | 1 => b
  | 2 => c
  | n => n
theorem ren_ok {a b c : Nat} (h : (a = 0 ∧ b = 1 ∧ c = 2) ∨ (a = 0 ∧ b = 2 ∧ c = 1) ∨ (a = 1 ∧ b = 0 ∧ c = 2) ∨ (a = 1 ∧ b = 2 ∧ c = 0) ∨ (a = 2 ∧ b = 0 ∧ c = 1) ∨ (a = 2 ∧ b = 1 ∧ c = 0)) : Ren (ren a b c) := by
  have val : ∀ i, (i = 0 ∧ ren a b c i = a) ∨ (i = 1 ∧ ren a b c i = b) ∨ (i = 2 ∧ ren a b c i = c) ∨ (3 ≤ i ∧ ren a b c i = i) := by
    intro i
    match i with
    | 0 => exact .inl ⟨rfl, rfl⟩
    | 1 => exact .inr (.inl ⟨rfl, rfl⟩)
    | 2 => exact .inr (.inr (.inl ⟨rfl, rfl⟩))
    | i + 3 => exact .inr (.inr (.inr ⟨by omega, rfl⟩))
  refine ⟨fun i j e => ?_, rfl⟩
  have hi := val i
  have hj := val j
  omega
/-- the letters of the word come in their order -/
def can : Nat → List Nat → Bool
  | _, [] => true
  | m, x :: r => match Nat.ble x m with
    | true => can (Nat.max m (x + 1)) r
    | false => false
def canB (xs : List Nat) : Bool := can 0 xs || (can 0 (xs.map (ren 0 2 1)) || (can 0 (xs.map (ren 1 0 2)) || (can 0 (xs.map (ren 1 2 0)) || (can 0 (xs.map (ren 2 0 1)) || can 0 (xs.map (ren 2 1 0))))))
theorem can_all : ((List.range 243).all fun n => canB [n % 3, n / 3 % 3, n / 9 % 3, n / 27 % 3, n / 81]) = true := by decide +kernel
def laws (xs : List Nat) : Bool := match can 0 xs with
  | false => true
  | true => (List.range 5).all fun k => lawX xs k
def w9 (b c : Nat) : Bool := (List.range 9).all fun n => laws [0, b, c, n % 3, n / 3]
theorem w00 : w9 0 0 = true := by decide +kernel
theorem w01 : w9 0 1 = true := by decide +kernel
theorem w02 : w9 0 2 = true := by decide +kernel
theorem w10 : w9 1 0 = true := by decide +kernel
theorem w11 : w9 1 1 = true := by decide +kernel
theorem w12 : w9 1 2 = true := by decide +kernel
theorem w_all {b c : Nat} (hb : b < 2) (hc : c < 3) : w9 b c = true := by
  have cb : b = 0 ∨ b = 1 := by omega
  have cc : c = 0 ∨ c = 1 ∨ c = 2 := by omega
  rcases cb with rfl | rfl <;> rcases cc with rfl | rfl | rfl
  · exact w00
  · exact w01
  · exact w02
  · exact w10
  · exact w11
  · exact w12
theorem can_law {xs : List Nat} (hx : ∀ x ∈ xs, x < 3) (hl : xs.length = 5) (hc : can 0 xs = true) {k : Nat} (hk : k < 5) : RowLaw xs k := by
  obtain ⟨a, b, c, d, e, rfl⟩ : ∃ a b c d e, xs = [a, b, c, d, e] := by
    match xs, hl with
    | [a, b, c, d, e], _ => exact ⟨a, b, c, d, e, rfl⟩
  have hc3 := hx c (by simp)
  have hd := hx d (by simp)
  have he := hx e (by simp)
  have ha : a = 0 := by
    unfold can at hc
    cases h : Nat.ble a 0 with
    | false => rw [h] at hc; cases hc
    | true => have := Nat.le_of_ble_eq_true h; omega
  subst ha
  have hb : b < 2 := by
    have hc' : can 1 [b, c, d, e] = true := hc
    unfold can at hc'
    cases h : Nat.ble b 1 with
    | false => rw [h] at hc'; cases hc'
    | true => have := Nat.le_of_ble_eq_true h; omega
  have h := w_all hb hc3
  unfold w9 at h
  have h1 := List.all_eq_true.mp h (d + 3 * e) (List.mem_range.mpr (by omega))
  rw [show (d + 3 * e) % 3 = d by omega, show (d + 3 * e) / 3 = e by omega] at h1
  unfold laws at h1
  rw [hc] at h1
  exact law_of (List.all_eq_true.mp h1 k (List.mem_range.mpr hk))
theorem ren_lt {a b c : Nat} (ha : a < 3) (hb : b < 3) (hc : c < 3) {xs : List Nat} (hx : ∀ x ∈ xs, x < 3) : ∀ x ∈ xs.map (ren a b c), x < 3 := fun x h => by
  obtain ⟨i, hi, rfl⟩ := List.mem_map.mp h
  have := hx i hi
  match i, this with
  | 0, _ => exact ha
  | 1, _ => exact hb
  | 2, _ => exact hc
theorem row_law {xs : List Nat} (hx : ∀ x ∈ xs, x < 3) (hl : xs.length = 5) {k : Nat} (hk : k < 5) : RowLaw xs k := by
  have hcb : canB xs = true := by
    obtain ⟨a, b, c, d, e, rfl⟩ : ∃ a b c d e, xs = [a, b, c, d, e] := by
      match xs, hl with
      | [a, b, c, d, e], _ => exact ⟨a, b, c, d, e, rfl⟩
    have ha := hx a (by simp)
    have hb := hx b (by simp)
    have hc := hx c (by simp)
    have hd := hx d (by simp)
    have he := hx e (by simp)
    have h1 := List.all_eq_true.mp can_all (a + 3 * b + 9 * c + 27 * d + 81 * e) (List.mem_range.mpr (by omega))
    rw [show (a + 3 * b + 9 * c + 27 * d + 81 * e) % 3 = a by omega, show (a + 3 * b + 9 * c + 27 * d + 81 * e) / 3 % 3 = b by omega, show (a + 3 * b + 9 * c + 27 * d + 81 * e) / 9 % 3 = c by omega,
      show (a + 3 * b + 9 * c + 27 * d + 81 * e) / 27 % 3 = d by omega, show (a + 3 * b + 9 * c + 27 * d + 81 * e) / 81 = e by omega] at h1
    exact h1
  have via : ∀ {a b c : Nat}, Ren (ren a b c) → a < 3 → b < 3 → c < 3 → can 0 (xs.map (ren a b c)) = true → RowLaw xs k := fun R ha hb hc h =>
    law_sym R (can_law (ren_lt ha hb hc hx) (by rw [List.length_map]; exact hl) h hk)
  unfold canB at hcb
  simp only [Bool.or_eq_true] at hcb
  rcases hcb with h | h | h | h | h | h
  · exact can_law hx hl h hk
  · exact via (ren_ok (by decide)) (by decide) (by decide) (by decide) h
  · exact via (ren_ok (by decide)) (by decide) (by decide) (by decide) h
  · exact via (ren_ok (by decide)) (by decide) (by decide) (by decide) h
  · exact via (ren_ok (by decide)) (by decide) (by decide) (by decide) h
  · exact via (ren_ok (by decide)) (by decide) (by decide) (by decide) h
end Mine
end
section
/-! part PlN -/
open PySem PySem.W PyProof.Rows PySem.Spec PySem.Calls PyProof.V StrLaws Builtin.Str
set_option maxRecDepth 100000
namespace Mine
theorem word_ok {f g h : Nat} (S : Signs f g h) {xs : List Nat} (hl : xs.length = 5) (hx : ∀ x ∈ xs, x < 3) : WordOk ⟨#[f]⟩ ⟨#[g, f]⟩ ⟨#[h, g, f]⟩ xs := by
  have T := sg_of S
  have N := nm2_ok S
  have hlen := head_len hl (k := 5) (by omega)
  have hDL := DL_len (nm_len f g h) (headR xs 5)
  have eH : headOf (labL f g h) xs 5 = tx f g h (headR xs 5) := head_row S hx (by omega) 5
  obtain ⟨o1, o2⟩ := loud_ok S hx hl
  obtain ⟨q1, q2⟩ := less_ok S
  have hjud : JudgedOk ⟨#[f]⟩ ⟨#[g, f]⟩ ⟨#[h, g, f]⟩ := judged_ok T
  refine ⟨?_, ?_, ?_, fun k hk => step_ok S hx hl hk (row_law hx hl hk), (run_row S hx (by omega)).2, ?_, ?_, o1, o2, ⟨?_, ?_⟩, q1, q2, ?_, hjud⟩
  · show (mkS [f]).length ≤ 10; rw [mkS_len]; simp
  · show (mkS [g, f]).length ≤ 10; rw [mkS_len]; simp
  · show (mkS [h, g, f]).length ≤ 10; rw [mkS_len]; simp
  · show (headOf (labL f g h) xs 5).length ≤ 1000
    rw [eH, mkS_len]; omega
  · show (Txt.upper (headOf (labL f g h) xs 5)).length ≤ 1000
    rw [eH, upper_mk (DL_lowL N _).asc, mkS_len, List.length_map]; omega
  · show (lessText (labL f g h)).length ≤ 1000
    rw [(less_mk f g h).1, mkS_len]; simp
  · show 1 ≤ (mkS [g, f]).length; rw [mkS_len]; simp
  · intro x hx'
    have hx2 : x = headOf (labL f g h) xs 5 ∨ x = loudOf (labL f g h) xs ∨ x = mkS [g, f] := by
      rcases List.mem_cons.mp hx' with h | h
      · exact .inl h
      · rcases List.mem_cons.mp h with h | h
        · exact .inr (.inl h)
        · exact .inr (.inr (List.mem_singleton.mp h))
    rcases hx2 with rfl | rfl | rfl
    · rw [eH]; exact strOk_mk (DL_lowL N _).asc
    · rw [loud_mk S hx hl]
      exact strOk_mk (asc_app (a := [32]) (by decide) (asc_app (up_asc (DL_lowL N _).asc) (by decide)))
    · have hb : Low [g, f] := low_of T (by simp)
      exact strOk_mk hb.asc
theorem plain : Plain := plain_of fun f g h xs S hl hx => word_ok S hl hx
end Mine
end
set_option maxRecDepth 100000 in
theorem PySem.Challenge.cw_rw0039_01_holds : PySem.Challenge.rw_rw0039_01.Holds :=
  Mine.top Mine.plain
