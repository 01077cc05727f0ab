import PyProof.Rows.All
import Wide.All
import OpenK.AllK
import Wide.FinOn
import PySem.Challenge.RW_tp0023_01
set_option Elab.async false

section
open PySem PySem.W PyProof.Rows
set_option Elab.async false
set_option maxRecDepth 100000
set_option maxHeartbeats 0
namespace Mine
/-- the top, but for what no look tells -/
def seenTop : Program := view PySem.Challenge.pw_tp0023_01 [0, 1, 3, 4, 5, 7, 9, 11, 12, 13, 14, 15, 16, 18, 19, 20, 21, 23, 24, 25, 26, 27, 28]
def looseNames : List Str := [Str.ofString "tspecials", Str.ofString "_name_disallowed_re", Str.ofString "_value_disallowed_re", Str.ofString "_formatparam", Str.ofString "_twin_re_1", Str.ofString "_twin_re_2"]
local macro_rules | `(tactic| o_head $H) => `(tactic| (
  refine holds_open (q := seenTop) (loose := looseNames) (Xt := fun s => xlAt seenTop [] s && recOk (RowW.records (OpenRow.toRowW PySem.Challenge.rw_tp0023_01.row)) s) (XP := XL seenTop []) (Yf := Hook.obs $H) (Ya := Hook.val $H) (YP := Hook.says $H) (N := 3368) ?hl (Hook.of $H) (Hook.keeps $H) (fun s e => xl_of s (Bool.and_eq_true_iff.mp e).1) XL.keeps (by rfl) (by rfl) (by rfl) (fun s e => recFacts_of (Bool.and_eq_true_iff.mp e).2) (by rfl) (by first | assumption | decide +kernel) (by decide +kernel) ⟨rfl, rfl, rfl, rfl, rfl, by decide +kernel⟩ ?hw ?hc
  case hl => (intro w; kernel_rfl)))
open_top hd for PySem.Challenge.rw_tp0023_01
end Mine
end

section
open PySem PySem.Sre
namespace Mine
def code2 : Array Nat := #[14, 9, 4, 1, 2, 16, 10, 16, 13, 0, 7, 7, 16, 13, 16, 10, 15, 18, 5, 16, 10, 15, 13, 11, 16, 13, 5, 5, 0, 16, 10, 1, 15, 2, 0, 1]
def code1 : Array Nat := #[14, 4, 0, 1, 1, 6, 1, 16, 46, 1]

theorem runFor_done {m : M} (h : m.outcome.isSome = true) (n : Nat) : M.runFor n m = m := by
  cases n with
  | zero => rfl
  | succ n => simp [M.runFor, h]
theorem runFor_add (a b : Nat) (m : M) : M.runFor (a + b) m = M.runFor b (M.runFor a m) := by
  induction a generalizing m with
  | zero => simp [M.runFor]
  | succ a ih =>
    rw [Nat.succ_add]
    cases h : m.outcome.isSome with
    | true => rw [runFor_done h, runFor_done h, runFor_done h]
    | false => simp [M.runFor, h, ih]
theorem runFor_succ {m : M} (h : m.outcome = none) (n : Nat) : M.runFor (n + 1) m = M.runFor n m.step := by
  simp [M.runFor, h]

abbrev mst (code text : Array Nat) (n start ls : Nat) (pc pos handed : Nat) (om : Bool) (frames : List Sre.Frame) (weight : Nat) (answer : Option Bool) (seen : Seen) : M :=
  { code, text, lim := n, start, lastStart := ls, pc, pos, handed, outermost := om, marks := #[], lastmark := -1, lastindex := -1, frames, weight, answer, seen }
abbrev fstart (pc s : Nat) (om : Bool) : Sre.Frame := { wait := .nextStart, pc, pos := s, outermost := om }

section
variable (text : Array Nat) (n start ls pos handed : Nat) (om : Bool) (frames : List Sre.Frame) (weight : Nat) (seen : Seen)
theorem c1_at : (mst code1 text n start ls 5 pos handed om frames weight none seen).step =
    if (pos == 0 || text.getD (pos - 1) 0 == 10) = true then mst code1 text n start ls 7 pos handed om frames weight none ((seen.add 6).add 44)
    else mst code1 text n start ls 5 pos handed om frames weight (some false) ((seen.add 6).add 44) := rfl
theorem c1_lit : (mst code1 text n start ls 7 pos handed om frames weight none seen).step =
    if pos ≥ n then mst code1 text n start ls 7 pos handed om frames weight (some false) (seen.add 16)
    else match text.getD pos 0 == 46 with
      | true => mst code1 text n start ls 9 (pos + 1) handed om frames weight none (seen.add 16)
      | false => mst code1 text n start ls 7 pos handed om frames weight (some false) (seen.add 16) := by
  show (if pos ≥ n then _ else (match (Except.ok (text.getD pos 0 == 46, seen.add 16) : Except String (Bool × Seen)) with
    | .error why => _ | .ok (false, seen) => _ | .ok (true, seen) => _)) = _
  cases text.getD pos 0 == 46 <;> rfl
theorem c1_ok : (mst code1 text n start ls 9 pos handed om frames weight none seen).step =
    mst code1 text n start ls 9 pos pos om frames weight (some true) (seen.add 1) := by
  cases om <;> rfl

theorem c_end (code : Array Nat) (pc : Nat) (b : Bool) : (mst code text n start ls pc pos handed om [] weight (some b) seen).step = { mst code text n start ls pc pos handed om [] weight (some b) seen with outcome := some (if b then .matched else .failed) } := by
  cases b <;> rfl
theorem c_yes (code : Array Nat) (pc fp s' : Nat) (om' : Bool) : (mst code text n start ls pc pos handed om [fstart fp s' om'] 1 (some true) seen).step = mst code text n start ls fp s' handed om' [] 0 (some true) seen := rfl
theorem c1_no (s' : Nat) (om' : Bool) : (mst code1 text n start ls pc pos handed om [fstart 5 s' om'] 1 (some false) seen).step =
    if s' < ls then mst code1 text n (s' + 1) ls 5 (s' + 1) (s' + 1) false [fstart 5 (s' + 1) false] 1 none seen
    else mst code1 text n start ls 5 s' handed om' [] 0 (some false) seen := rfl

-- the second pattern, at its points
theorem c2_branch : (mst code2 text n start ls 10 pos handed om frames weight none seen).step =
    if weight + 1 + 0 > 16777216 then (mst code2 text n start ls 10 pos handed om frames weight none (seen.add 7)).stick "frames:memory" else
    mst code2 text n start ls 12 pos pos om ({ wait := .nextBranch, pc := 11, pos, outermost := om } :: frames) (weight + 1 + 0) none (seen.add 7) := rfl
theorem c2_lit12 : (mst code2 text n start ls 12 pos handed om frames weight none seen).step =
    if pos ≥ n then mst code2 text n start ls 12 pos handed om frames weight (some false) (seen.add 16)
    else match text.getD pos 0 == 13 with
      | true => mst code2 text n start ls (12 + 2) (pos + 1) handed om frames weight none (seen.add 16)
      | false => mst code2 text n start ls 12 pos handed om frames weight (some false) (seen.add 16) := by
  show (if pos ≥ n then _ else (match (Except.ok (text.getD pos 0 == 13, seen.add 16) : Except String (Bool × Seen)) with
    | .error why => _ | .ok (false, seen) => _ | .ok (true, seen) => _)) = _
  cases text.getD pos 0 == 13 <;> rfl
theorem c2_lit14 : (mst code2 text n start ls 14 pos handed om frames weight none seen).step =
    if pos ≥ n then mst code2 text n start ls 14 pos handed om frames weight (some false) (seen.add 16)
    else match text.getD pos 0 == 10 with
      | true => mst code2 text n start ls (14 + 2) (pos + 1) handed om frames weight none (seen.add 16)
      | false => mst code2 text n start ls 14 pos handed om frames weight (some false) (seen.add 16) := by
  show (if pos ≥ n then _ else (match (Except.ok (text.getD pos 0 == 10, seen.add 16) : Except String (Bool × Seen)) with
    | .error why => _ | .ok (false, seen) => _ | .ok (true, seen) => _)) = _
  cases text.getD pos 0 == 10 <;> rfl
theorem c2_lit19 : (mst code2 text n start ls 19 pos handed om frames weight none seen).step =
    if pos ≥ n then mst code2 text n start ls 19 pos handed om frames weight (some false) (seen.add 16)
    else match text.getD pos 0 == 10 with
      | true => mst code2 text n start ls (19 + 2) (pos + 1) handed om frames weight none (seen.add 16)
      | false => mst code2 text n start ls 19 pos handed om frames weight (some false) (seen.add 16) := by
  show (if pos ≥ n then _ else (match (Except.ok (text.getD pos 0 == 10, seen.add 16) : Except String (Bool × Seen)) with
    | .error why => _ | .ok (false, seen) => _ | .ok (true, seen) => _)) = _
  cases text.getD pos 0 == 10 <;> rfl
theorem c2_lit24 : (mst code2 text n start ls 24 pos handed om frames weight none seen).step =
    if pos ≥ n then mst code2 text n start ls 24 pos handed om frames weight (some false) (seen.add 16)
    else match text.getD pos 0 == 13 with
      | true => mst code2 text n start ls (24 + 2) (pos + 1) handed om frames weight none (seen.add 16)
      | false => mst code2 text n start ls 24 pos handed om frames weight (some false) (seen.add 16) := by
  show (if pos ≥ n then _ else (match (Except.ok (text.getD pos 0 == 13, seen.add 16) : Except String (Bool × Seen)) with
    | .error why => _ | .ok (false, seen) => _ | .ok (true, seen) => _)) = _
  cases text.getD pos 0 == 13 <;> rfl
theorem c2_lit29 : (mst code2 text n start ls 29 pos handed om frames weight none seen).step =
    if pos ≥ n then mst code2 text n start ls 29 pos handed om frames weight (some false) (seen.add 16)
    else match text.getD pos 0 == 10 with
      | true => mst code2 text n start ls (29 + 2) (pos + 1) handed om frames weight none (seen.add 16)
      | false => mst code2 text n start ls 29 pos handed om frames weight (some false) (seen.add 16) := by
  show (if pos ≥ n then _ else (match (Except.ok (text.getD pos 0 == 10, seen.add 16) : Except String (Bool × Seen)) with
    | .error why => _ | .ok (false, seen) => _ | .ok (true, seen) => _)) = _
  cases text.getD pos 0 == 10 <;> rfl
theorem c2_jump16 : (mst code2 text n start ls 16 pos handed om frames weight none seen).step = mst code2 text n start ls 35 pos handed om frames weight none (seen.add 15) := rfl
theorem c2_jump21 : (mst code2 text n start ls 21 pos handed om frames weight none seen).step = mst code2 text n start ls 35 pos handed om frames weight none (seen.add 15) := rfl
theorem c2_jump32 : (mst code2 text n start ls 32 pos handed om frames weight none seen).step = mst code2 text n start ls 35 pos handed om frames weight none (seen.add 15) := rfl
theorem c2_ok35 : (mst code2 text n start ls 35 pos handed om frames weight none seen).step = mst code2 text n start ls 35 pos pos om frames weight (some true) (seen.add 1) := by
  cases om <;> rfl
theorem c2_ok31 : (mst code2 text n start ls 31 pos handed om frames weight none seen).step = mst code2 text n start ls 31 pos pos om frames weight (some true) (seen.add 1) := by
  cases om <;> rfl
theorem c2_not26 : (mst code2 text n start ls 26 pos handed om frames weight none seen).step =
    if weight + 1 + 0 > 16777216 then (mst code2 text n start ls 26 pos handed om frames weight none (seen.add 5)).stick "frames:memory" else
    mst code2 text n start ls 29 pos pos false ({ wait := .lookNot, pc := 26, pos, outermost := om } :: frames) (weight + 1 + 0) none (seen.add 5) := rfl
-- frames
theorem c2_look_yes (pc s' : Nat) (om' : Bool) : (mst code2 text n start ls pc pos handed om ({ wait := .lookNot, pc := 26, pos := s', outermost := om' } :: frames) weight (some true) seen).step =
    mst code2 text n start ls 26 s' handed om' frames (weight - (1 + 0)) (some false) seen := rfl
theorem c2_look_no (pc s' : Nat) (om' : Bool) : (mst code2 text n start ls pc pos handed om ({ wait := .lookNot, pc := 26, pos := s', outermost := om' } :: frames) weight (some false) seen).step =
    mst code2 text n start ls 32 s' handed om' frames (weight - (1 + 0)) none seen := rfl
theorem c2_br_yes (pc a s' : Nat) (om' : Bool) : (mst code2 text n start ls pc pos handed om ({ wait := .nextBranch, pc := a, pos := s', outermost := om' } :: frames) weight (some true) seen).step =
    mst code2 text n start ls a s' handed om' frames (weight - (1 + 0)) (some true) seen := rfl
theorem c2_br_no11 (pc s' : Nat) (om' : Bool) : (mst code2 text n start ls pc pos handed om ({ wait := .nextBranch, pc := 11, pos := s', outermost := om' } :: frames) weight (some false) seen).step =
    if weight - (1 + 0) + 1 + 0 > 16777216 then (mst code2 text n start ls 11 s' handed om' frames (weight - (1 + 0)) none seen).stick "frames:memory" else
    mst code2 text n start ls 19 s' s' om' ({ wait := .nextBranch, pc := 18, pos := s', outermost := om' } :: frames) (weight - (1 + 0) + 1 + 0) none seen := rfl
theorem c2_br_no18 (pc s' : Nat) (om' : Bool) : (mst code2 text n start ls pc pos handed om ({ wait := .nextBranch, pc := 18, pos := s', outermost := om' } :: frames) weight (some false) seen).step =
    if weight - (1 + 0) + 1 + 0 > 16777216 then (mst code2 text n start ls 18 s' handed om' frames (weight - (1 + 0)) none seen).stick "frames:memory" else
    mst code2 text n start ls 24 s' s' om' ({ wait := .nextBranch, pc := 23, pos := s', outermost := om' } :: frames) (weight - (1 + 0) + 1 + 0) none seen := rfl

end

/-- what a run comes to, in at most N steps -/
def Runs (m : M) (N : Nat) (P : M → Prop) : Prop := ∃ k, k ≤ N ∧ P (M.runFor k m)
theorem Runs.now {m : M} {P : M → Prop} (h : P m) : Runs m 0 P := ⟨0, Nat.le_refl _, h⟩
theorem Runs.step {m m' : M} {N : Nat} {P : M → Prop} (ho : m.outcome = none) (e : m.step = m') (h : Runs m' N P) : Runs m (N + 1) P := by
  obtain ⟨k, hk, hp⟩ := h
  exact ⟨k + 1, by omega, by rw [runFor_succ ho, e]; exact hp⟩
theorem Runs.le {m : M} {N N' : Nat} {P : M → Prop} (h : Runs m N P) (hn : N ≤ N') : Runs m N' P := let ⟨k, hk, hp⟩ := h; ⟨k, Nat.le_trans hk hn, hp⟩
def Hit (a b : Nat) (m : M) : Prop := m.outcome = some .matched ∧ m.start = a ∧ m.handed = b
def Miss (m : M) : Prop := m.outcome = some .failed

section
variable {text : Array Nat} {n s : Nat}
theorem hit2_nl (ls : Nat) (om : Bool) (h : Nat) (seen : Seen) (hs : s < n) (h10 : text.getD s 0 = 10) :
    Runs (mst code2 text n s ls 10 s h om [fstart 10 s om] 1 none seen) 20 (Hit s (s + 1)) := by
  have n13 : (text.getD s 0 == 13) = false := by rw [h10]; rfl
  have y10 : (text.getD s 0 == 10) = true := by rw [h10]; rfl
  refine Runs.le ?_ (by decide : 9 ≤ 20)
  refine .step rfl (c2_branch ..) ?_
  rw [if_neg (by decide)]
  refine .step rfl (c2_lit12 ..) ?_
  rw [if_neg (by omega), n13]
  refine .step rfl (c2_br_no11 ..) ?_
  rw [if_neg (by decide)]
  refine .step rfl (c2_lit19 ..) ?_
  rw [if_neg (by omega), y10]
  refine .step rfl (c2_jump21 ..) ?_
  refine .step rfl (c2_ok35 ..) ?_
  refine .step rfl (c2_br_yes ..) ?_
  refine .step rfl (c_yes ..) ?_
  refine .step rfl (c_end ..) ?_
  exact (Runs.now ⟨rfl, rfl, rfl⟩).le (Nat.zero_le _)
theorem hit2_crlf (ls : Nat) (om : Bool) (h : Nat) (seen : Seen) (hs : s + 1 < n) (h13 : text.getD s 0 = 13) (h10 : text.getD (s + 1) 0 = 10) :
    Runs (mst code2 text n s ls 10 s h om [fstart 10 s om] 1 none seen) 20 (Hit s (s + 2)) := by
  have y13 : (text.getD s 0 == 13) = true := by rw [h13]; rfl
  have y10 : (text.getD (s + 1) 0 == 10) = true := by rw [h10]; rfl
  refine Runs.le ?_ (by decide : 9 ≤ 20)
  refine .step rfl (c2_branch ..) ?_
  rw [if_neg (by decide)]
  refine .step rfl (c2_lit12 ..) ?_
  rw [if_neg (by omega), y13]
  refine .step rfl (c2_lit14 ..) ?_
  rw [if_neg (by omega), y10]
  refine .step rfl (c2_jump16 ..) ?_
  refine .step rfl (c2_ok35 ..) ?_
  refine .step rfl (c2_br_yes ..) ?_
  refine .step rfl (c_yes ..) ?_
  refine .step rfl (c_end ..) ?_
  exact (Runs.now ⟨rfl, rfl, rfl⟩).le (Nat.zero_le _)
theorem hit2_cr (ls : Nat) (om : Bool) (h : Nat) (seen : Seen) (hs : s < n) (h13 : text.getD s 0 = 13) (h10 : s + 1 < n → text.getD (s + 1) 0 ≠ 10) :
    Runs (mst code2 text n s ls 10 s h om [fstart 10 s om] 1 none seen) 20 (Hit s (s + 1)) := by
  have y13 : (text.getD s 0 == 13) = true := by rw [h13]; rfl
  have n10 : (text.getD s 0 == 10) = false := by rw [h13]; rfl
  have fail (x y : M) : (if s + 1 ≥ n then y else match text.getD (s + 1) 0 == 10 with | true => x | false => y) = y := by
    split
    · rfl
    · rename_i q
      have : (text.getD (s + 1) 0 == 10) = false := by
        have := h10 (by omega)
        simpa using this
      rw [this]
  refine Runs.le ?_ (by decide : 16 ≤ 20)
  refine .step rfl (c2_branch ..) ?_
  rw [if_neg (by decide)]
  refine .step rfl (c2_lit12 ..) ?_
  rw [if_neg (by omega), y13]
  refine .step rfl (c2_lit14 ..) ?_
  rw [fail]
  refine .step rfl (c2_br_no11 ..) ?_
  rw [if_neg (by decide)]
  refine .step rfl (c2_lit19 ..) ?_
  rw [if_neg (by omega), n10]
  refine .step rfl (c2_br_no18 ..) ?_
  rw [if_neg (by decide)]
  refine .step rfl (c2_lit24 ..) ?_
  rw [if_neg (by omega), y13]
  refine .step rfl (c2_not26 ..) ?_
  rw [if_neg (by decide)]
  refine .step rfl (c2_lit29 ..) ?_
  rw [fail]
  refine .step rfl (c2_look_no ..) ?_
  refine .step rfl (c2_jump32 ..) ?_
  refine .step rfl (c2_ok35 ..) ?_
  refine .step rfl (c2_br_yes ..) ?_
  refine .step rfl (c_yes ..) ?_
  refine .step rfl (c_end ..) ?_
  exact (Runs.now ⟨rfl, rfl, rfl⟩).le (Nat.zero_le _)
end

/-- the set that opens a pattern's code says cl -/
def SetSays (code : Array Nat) (cl : Nat → Bool) : Prop := ∀ c seen, ∃ seen', inSet code c code.size 5 true seen = .ok (cl c, seen')
theorem set2 : SetSays code2 (fun c => c == 10 || c == 13) := by
  intro c seen
  show ∃ seen', (if (c == 10) = true then Except.ok (true, seen.add 16) else if (c == 13) = true then Except.ok (true, (seen.add 16).add 16) else (.ok (!true, ((seen.add 16).add 16).add 0) : Except String (Bool × Seen))) = _
  cases h1 : c == 10 with
  | true => exact ⟨seen.add 16, by simp [h1]⟩
  | false => cases h2 : c == 13 with
    | true => exact ⟨(seen.add 16).add 16, by simp [h1, h2]⟩
    | false => exact ⟨((seen.add 16).add 16).add 0, by simp [h1, h2]⟩

theorem admitted_at {m : M} {cl : Nat → Bool} (hs : SetSays m.code cl) {q : Nat} (hq : q < m.lim) (hy : cl (m.text.getD q 0) = true) :
    ∀ (fuel s : Nat) (seen : Seen), s ≤ q → q - s < fuel → (∀ i, s ≤ i → i < q → cl (m.text.getD i 0) = false) → ∃ seen', M.admitted m fuel s seen = .ok (some q, seen') := by
  intro fuel
  induction fuel with
  | zero => intro s seen _ h; omega
  | succ f ih =>
    intro s seen hsq hf hn
    obtain ⟨sn, e⟩ := hs (m.text.getD s 0) seen
    by_cases h : s = q
    · subst h
      exact ⟨sn, by simp only [M.admitted]; rw [if_neg (by omega), e, hy]⟩
    · have hc := hn s (Nat.le_refl _) (by omega)
      obtain ⟨sn', e'⟩ := ih (s + 1) sn (by omega) (by omega) fun i h1 h2 => hn i (by omega) h2
      exact ⟨sn', by simp only [M.admitted]; rw [if_neg (by omega), e, hc]; exact e'⟩
theorem admitted_none {m : M} {cl : Nat → Bool} (hs : SetSays m.code cl) :
    ∀ (fuel s : Nat) (seen : Seen), m.lim - s < fuel → (∀ i, s ≤ i → i < m.lim → cl (m.text.getD i 0) = false) → ∃ seen', M.admitted m fuel s seen = .ok (none, seen') := by
  intro fuel
  induction fuel with
  | zero => intro s seen h; omega
  | succ f ih =>
    intro s seen hf hn
    by_cases h : s ≥ m.lim
    · exact ⟨seen, by simp only [M.admitted]; rw [if_pos h]⟩
    · obtain ⟨sn, e⟩ := hs (m.text.getD s 0) seen
      have hc := hn s (Nat.le_refl _) (by omega)
      obtain ⟨sn', e'⟩ := ih (s + 1) sn (by omega) fun i h1 h2 => hn i (by omega) h2
      exact ⟨sn', by simp only [M.admitted]; rw [if_neg h, e, hc]; exact e'⟩

theorem in_room {a n : Nat} (h : a < n) : ¬ (decide (a > n) || decide (n - a < 1)) = true := by
  rw [decide_eq_false (by omega), decide_eq_false (by omega)]; exact Bool.false_ne_true
theorem search2_eq (text : Array Nat) (start n : Nat) : forSearch code2 text 0 start n false =
    if (decide (start > n) || decide (n - start < 1)) = true then { mst code2 text n start 0 10 start start true [] 0 (some false) (({} : Seen).add 14) with }
    else (mst code2 text n start n 10 start start true [] 0 none (({} : Seen).add 14)).attemptFrom start true := rfl
theorem from2_eq (text : Array Nat) (start n : Nat) : (mst code2 text n start n 10 start start true [] 0 none (({} : Seen).add 14)).attemptFrom start true =
    match M.admitted (mst code2 text n start n 10 start start true [] 0 none (({} : Seen).add 14)) (n + 1 - start) start (({} : Seen).add 14) with
    | .ok (some s, seen) => mst code2 text n s n 10 s s true [fstart 10 s true] 1 none seen
    | .ok (none, seen) => mst code2 text n start n 10 start start true [] 0 (some false) seen
    | .error why => (mst code2 text n start n 10 start start true [] 0 none (({} : Seen).add 14)).stick why := by
  show (match M.admitted (mst code2 text n start n 10 start start true [] 0 none (({} : Seen).add 14)) (n + 1 - start) start (({} : Seen).add 14) with
    | .ok (some s, seen) => _ | .ok (none, seen) => _ | .error why => _) = _
  cases M.admitted (mst code2 text n start n 10 start start true [] 0 none (({} : Seen).add 14)) (n + 1 - start) start (({} : Seen).add 14) with
  | error => rfl
  | ok r => obtain ⟨o, sn⟩ := r; cases o <;> rfl
theorem search2_at {text : Array Nat} {start n q : Nat} {P : M → Prop} {N : Nat} (hsq : start ≤ q) (hq : q < n) (hy : (text.getD q 0 == 10 || text.getD q 0 == 13) = true)
    (hn : ∀ i, start ≤ i → i < q → (text.getD i 0 == 10 || text.getD i 0 == 13) = false)
    (h : ∀ seen, Runs (mst code2 text n q n 10 q q true [fstart 10 q true] 1 none seen) N P) : Runs (forSearch code2 text 0 start n false) N P := by
  rw [search2_eq, if_neg (in_room (a := start) (n := n) (by omega)), from2_eq]
  obtain ⟨sn, e⟩ := admitted_at (m := mst code2 text n start n 10 start start true [] 0 none (({} : Seen).add 14)) set2 hq hy (n + 1 - start) start (({} : Seen).add 14) hsq (by omega) hn
  rw [e]
  exact h sn
theorem search2_miss {text : Array Nat} {start n : Nat} (hn : ∀ i, start ≤ i → i < n → (text.getD i 0 == 10 || text.getD i 0 == 13) = false) : Runs (forSearch code2 text 0 start n false) 1 Miss := by
  rw [search2_eq]
  split
  · exact .step rfl (c_end ..) (.now rfl)
  · rename_i hc
    have hle : start ≤ n := Nat.le_of_not_lt fun hh => hc (by rw [decide_eq_true (show start > n from hh)]; rfl)
    rw [from2_eq]
    obtain ⟨sn, e⟩ := admitted_none (m := mst code2 text n start n 10 start start true [] 0 none (({} : Seen).add 14)) set2 (n + 1 - start) start (({} : Seen).add 14) (by show n - start < _; omega) hn
    rw [e]
    exact .step rfl (c_end ..) (.now rfl)

-- the first pattern
theorem search1_eq (text : Array Nat) (start n : Nat) : forSearch code1 text 0 start n false =
    if (decide (start > n) || decide (n - start < 1)) = true then { mst code1 text n start 0 5 start start true [] 0 (some false) (({} : Seen).add 14) with }
    else mst code1 text n start n 5 start start true [fstart 5 start true] 1 none (({} : Seen).add 14) := rfl
section
variable {text : Array Nat} {n : Nat}
theorem hit1 {s : Nat} (ls : Nat) (om : Bool) (h : Nat) (seen : Seen) (hs : s < n) (hd : text.getD s 0 = 46) (hb : (s == 0 || text.getD (s - 1) 0 == 10) = true) :
    Runs (mst code1 text n s ls 5 s h om [fstart 5 s om] 1 none seen) 6 (Hit s (s + 1)) := by
  have y : (text.getD s 0 == 46) = true := by rw [hd]; rfl
  refine Runs.le ?_ (by decide : 5 ≤ 6)
  refine .step rfl (c1_at ..) ?_
  rw [if_pos hb]
  refine .step rfl (c1_lit ..) ?_
  rw [if_neg (by omega), y]
  refine .step rfl (c1_ok ..) ?_
  refine .step rfl (c_yes ..) ?_
  refine .step rfl (c_end ..) ?_
  exact .now ⟨rfl, rfl, rfl⟩
theorem miss1 (om : Bool) (h : Nat) (seen : Seen) :
    Runs (mst code1 text n n n 5 n h om [fstart 5 n om] 1 none seen) 6 Miss := by
  refine Runs.le ?_ (by decide : 4 ≤ 6)
  refine .step rfl (c1_at ..) ?_
  split
  · refine .step rfl (c1_lit ..) ?_
    rw [if_pos (Nat.le_refl _)]
    refine .step rfl (c1_no ..) ?_
    rw [if_neg (Nat.lt_irrefl _)]
    exact .step rfl (c_end ..) (.now rfl)
  · refine .step rfl (c1_no ..) ?_
    rw [if_neg (Nat.lt_irrefl _)]
    exact Runs.le (Runs.step (P := Miss) rfl (c_end ..) (.now rfl)) (show 0 + 1 ≤ 2 by decide)
theorem scan1 {P : M → Prop} {N q : Nat} (hq : q ≤ n) (hN : ∀ om h seen, Runs (mst code1 text n q n 5 q h om [fstart 5 q om] 1 none seen) N P) :
    ∀ (k p : Nat), q = p + k → (∀ i, p ≤ i → i < q → (i == 0 || text.getD (i - 1) 0 == 10) = false) → ∀ om h seen, Runs (mst code1 text n p n 5 p h om [fstart 5 p om] 1 none seen) (N + 2 * k) P := by
  intro k
  induction k with
  | zero => intro p hp _ om h seen; rw [Nat.add_zero] at hp; subst hp; exact hN om h seen
  | succ k ih =>
    intro p hp hno om h seen
    have hb := hno p (Nat.le_refl _) (by omega)
    refine Runs.le ?_ (by omega : (N + 2 * k) + 1 + 1 ≤ N + 2 * (k + 1))
    refine .step rfl (c1_at ..) ?_
    rw [if_neg (by rw [hb]; exact Bool.false_ne_true)]
    refine .step rfl (c1_no ..) ?_
    rw [if_pos (by omega)]
    exact ih (p + 1) (by omega) (fun i h1 h2 => hno i (by omega) h2) false (p + 1) _
theorem search1_at {start q : Nat} (hsq : start ≤ q) (hq : q < n) (hd : text.getD q 0 = 46) (hb : (q == 0 || text.getD (q - 1) 0 == 10) = true)
    (hno : ∀ i, start ≤ i → i < q → (i == 0 || text.getD (i - 1) 0 == 10) = false) : Runs (forSearch code1 text 0 start n false) (6 + 2 * n) (Hit q (q + 1)) := by
  rw [search1_eq, if_neg (in_room (a := start) (n := n) (by omega))]
  exact (scan1 (Nat.le_of_lt hq) (fun om h seen => hit1 n om h seen hq hd hb) (q - start) start (by omega) hno true start _).le (by omega)
theorem search1_miss {start : Nat} (hsq : start ≤ n) (hno : ∀ i, start ≤ i → i < n → (i == 0 || text.getD (i - 1) 0 == 10) = false) : Runs (forSearch code1 text 0 start n false) (6 + 2 * n) Miss := by
  rw [search1_eq]
  split
  · exact Runs.le (Runs.step (P := Miss) rfl (c_end ..) (.now rfl)) (show 0 + 1 ≤ 6 + 2 * n by omega)
  · exact (scan1 (Nat.le_refl n) (fun om h seen => miss1 om h seen) (n - start) start (by omega) hno true start _).le (by omega)
end
end Mine
namespace Mine
def codeN : Array Nat := #[14, 10, 4, 1, 1, 22, 0, 31, 16, 127, 0, 13, 7, 22, 0, 31, 16, 127, 0, 1]
def codeV : Array Nat := #[14, 14, 4, 1, 1, 9, 4294966783, 0, 0, 2147483648, 0, 0, 0, 0, 0, 13, 11, 9, 4294966783, 0, 0, 2147483648, 0, 0, 0, 0, 0, 1]
def clN (c : Nat) : Bool := (decide (0 ≤ c) && decide (c ≤ 31)) || c == 127
def clV (c : Nat) : Bool := decide (c < 256) && (codeV.getD (5 + (1 + c / 32)) 0).testBit (c % 32)
theorem setN : SetSays codeN clN := by
  intro c seen
  show ∃ seen', (if (decide (0 ≤ c) && decide (c ≤ 31)) = true then Except.ok (true, seen.add 22) else if (c == 127) = true then Except.ok (true, (seen.add 22).add 16) else (.ok (!true, ((seen.add 22).add 16).add 0) : Except String (Bool × Seen))) = _
  unfold clN
  cases h1 : (decide (0 ≤ c) && decide (c ≤ 31)) with
  | true => exact ⟨seen.add 22, by rw [if_pos rfl]; rfl⟩
  | false => cases h2 : c == 127 with
    | true => exact ⟨(seen.add 22).add 16, by rw [if_neg Bool.false_ne_true, if_pos rfl]; rfl⟩
    | false => exact ⟨((seen.add 22).add 16).add 0, by rw [if_neg Bool.false_ne_true, if_neg Bool.false_ne_true]; rfl⟩
theorem setV : SetSays codeV clV := by
  intro c seen
  show ∃ seen', (if (decide (c < 256) && (codeV.getD (5 + (1 + c / 32)) 0).testBit (c % 32)) = true then Except.ok (true, seen.add 9) else (.ok (!true, (seen.add 9).add 0) : Except String (Bool × Seen))) = _
  unfold clV
  cases h1 : (decide (c < 256) && (codeV.getD (5 + (1 + c / 32)) 0).testBit (c % 32)) with
  | true => exact ⟨seen.add 9, by rw [if_pos rfl]⟩
  | false => exact ⟨(seen.add 9).add 0, by rw [if_neg Bool.false_ne_true]; rfl⟩

theorem searchN_eq (text : Array Nat) (n : Nat) : forSearch codeN text 0 0 n false =
    if (decide (0 > n) || decide (n - 0 < 1)) = true then { mst codeN text n 0 0 11 0 0 true [] 0 (some false) (({} : Seen).add 14) with }
    else (mst codeN text n 0 n 11 0 0 true [] 0 none (({} : Seen).add 14)).attemptFrom 0 true := rfl
theorem searchV_eq (text : Array Nat) (n : Nat) : forSearch codeV text 0 0 n false =
    if (decide (0 > n) || decide (n - 0 < 1)) = true then { mst codeV text n 0 0 15 0 0 true [] 0 (some false) (({} : Seen).add 14) with }
    else (mst codeV text n 0 n 15 0 0 true [] 0 none (({} : Seen).add 14)).attemptFrom 0 true := rfl
theorem attemptFrom_none {m : M} {s : Nat} {first : Bool} {seen' : Seen} (hf : m.hasFirstSet = true) (e : M.admitted m (m.lim + 1 - s) s m.seen = .ok (none, seen')) : m.attemptFrom s first = { m with seen := seen' }.say false := by
  unfold M.attemptFrom
  rw [hf, e]; rfl
theorem searchN_miss {text : Array Nat} {n : Nat} (hn : ∀ i, i < n → clN (text.getD i 0) = false) : Runs (forSearch codeN text 0 0 n false) 1 Miss := by
  rw [searchN_eq]
  split
  · exact Runs.step (P := Miss) rfl (c_end ..) (.now rfl)
  · obtain ⟨sn, e⟩ := admitted_none (m := mst codeN text n 0 n 11 0 0 true [] 0 none (({} : Seen).add 14)) setN (n + 1 - 0) 0 (({} : Seen).add 14) (by show n - 0 < _; omega) fun i _ h => hn i h
    rw [attemptFrom_none rfl e]
    exact Runs.step (P := Miss) rfl (c_end text n 0 n 0 0 true 0 _ codeN 11 false) (.now rfl)
theorem searchV_miss {text : Array Nat} {n : Nat} (hn : ∀ i, i < n → clV (text.getD i 0) = false) : Runs (forSearch codeV text 0 0 n false) 1 Miss := by
  rw [searchV_eq]
  split
  · exact Runs.step (P := Miss) rfl (c_end ..) (.now rfl)
  · obtain ⟨sn, e⟩ := admitted_none (m := mst codeV text n 0 n 15 0 0 true [] 0 none (({} : Seen).add 14)) setV (n + 1 - 0) 0 (({} : Seen).add 14) (by show n - 0 < _; omega) fun i _ h => hn i h
    rw [attemptFrom_none rfl e]
    exact Runs.step (P := Miss) rfl (c_end text n 0 n 0 0 true 0 _ codeV 15 false) (.now rfl)
end Mine
end

section
set_option maxRecDepth 100000
set_option Elab.async false
open PySem PySem.Sre PySem.Calls PyProof.Rows PySem.Builtin PySem.Builtin.Re
namespace Mine
theorem slot_search : Slot "re.Pattern" "search" "re.Pattern.search" :=
  .of (owner := "re.Pattern") (n := "search") (by rw [typeLookup_type, builtinLookup_eq_fast]; kernel_rfl) (by decide +kernel) (by decide +kernel) (by decide +kernel)
    (by first | exact .inl (by decide +kernel) | exact .inr (by decide +kernel)) (by rw [isSubtype_type]; kernel_rfl)
theorem slot_sub : Slot "re.Pattern" "sub" "re.Pattern.sub" :=
  .of (owner := "re.Pattern") (n := "sub") (by rw [typeLookup_type, builtinLookup_eq_fast]; kernel_rfl) (by decide +kernel) (by decide +kernel) (by decide +kernel)
    (by first | exact .inl (by decide +kernel) | exact .inr (by decide +kernel)) (by rw [isSubtype_type]; kernel_rfl)
theorem entry_search : entryFor table "re.Pattern.search" = some Builtin.«re.Pattern.search» := entryFor_of_tree (by kernel_rfl)
theorem entry_sub : entryFor table "re.Pattern.sub" = some Builtin.«re.Pattern.sub» := entryFor_of_tree (by kernel_rfl)
theorem entry_subloop : entryFor table "re.Pattern.sub.loop" = some Builtin.«re.Pattern.sub.loop» := entryFor_of_tree (by kernel_rfl)
theorem args_search (a b : Value) : argsOk "re.Pattern.search" ⟨[a, b], []⟩ := by unfold argsOk; kernel_rfl
theorem args_sub (a b c : Value) : argsOk "re.Pattern.sub" ⟨[a, b, c], []⟩ := by unfold argsOk; kernel_rfl
end Mine
namespace Mine
section
variable {prog : Program} {w : World} {A : Around} {E : Value → Shared → Prop} {s : Shared}

theorem wpAny_reDrive {k : Nat} {M' : Model} {m m' : Sre.M} (hk : M.runFor k m = m') (ho : m'.outcome.isSome = true) {Q : Sre.M → Shared → Prop} (h : Q m' s) :
    ∀ turns, k ≤ 4 * turns → 0 < turns → wpAny M' A (reDrive turns m) Q E s := by
  intro turns
  induction turns generalizing m k with
  | zero => intro _ h; omega
  | succ t ih =>
    intro hle _
    show wpAny M' A (if (m.runFor reTurnSteps).outcome.isSome = true then pure (m.runFor reTurnSteps) else (do rule "sre.turn"; reDrive t (m.runFor reTurnSteps))) Q E s
    by_cases h4 : k ≤ 4
    · have e : m.runFor reTurnSteps = m' := by
        show m.runFor 4 = m'
        have : 4 = k + (4 - k) := by omega
        rw [this, runFor_add, hk, runFor_done ho]
      rw [e, if_pos ho]
      exact wpAny_pure h
    · by_cases hd : (m.runFor reTurnSteps).outcome.isSome = true
      · rw [if_pos hd]
        have e : m.runFor reTurnSteps = m' := by
          have : k = 4 + (k - 4) := by omega
          rw [this, runFor_add] at hk
          rw [← hk]
          exact (runFor_done hd _).symm
        rw [e]; exact wpAny_pure h
      · rw [if_neg hd]
        refine wpAny_bind (wpAny_rule ?_)
        refine ih (k := k - 4) ?_ (by omega) (by omega)
        show (m.runFor 4).runFor (k - 4) = m'
        rw [← runFor_add]
        have : 4 + (k - 4) = k := by omega
        rw [this]; exact hk

theorem wpAny_rules {M' : Model} (l : List Nat) (b : Nat → Bool) (nm : Nat → String) {Q : PUnit → Shared → Prop} (h : Q ⟨⟩ s) :
    wpAny M' A (forIn l PUnit.unit fun i _ => if b i = true then (do rule (nm i); pure (ForInStep.yield PUnit.unit)) else pure (ForInStep.yield PUnit.unit)) Q E s := by
  refine wpAny_forIn_list _ (fun _ _ s' => s' = s) _ ?_ ?_ l _ rfl
  · rintro x rest u s' rfl
    split
    · exact wpAny_bind (wpAny_rule (wpAny_pure rfl))
    · exact wpAny_pure rfl
  · rintro u s' rfl; exact h

theorem big : 2 ^ 64 = 18446744073709551616 := by decide
theorem runToEnd_hit {M' : Model} {m : Sre.M} {N a b : Nat} (hr : Runs m N (Hit a b)) (hN : N ≤ 2 ^ 60) {Q : Option Sre.M → Shared → Prop}
    (h : ∀ m', m'.start = a → m'.handed = b → Q (some m') s) : wpAny M' A (reRunToEnd m) Q E s := by
  obtain ⟨k, hk, ho, ha, hb⟩ := hr
  unfold reRunToEnd
  refine wpAny_bind (wpAny_reDrive rfl (by rw [ho]; rfl) ?_ (2 ^ 64) (by omega) (by omega))
  refine wpAny_bind (wpAny_rules _ _ _ ?_)
  rw [ho]
  exact wpAny_pure (h _ ha hb)
theorem runToEnd_miss {M' : Model} {m : Sre.M} {N : Nat} (hr : Runs m N Miss) (hN : N ≤ 2 ^ 60) {Q : Option Sre.M → Shared → Prop}
    (h : Q none s) : wpAny M' A (reRunToEnd m) Q E s := by
  obtain ⟨k, hk, ho⟩ := hr
  have ho : (M.runFor k m).outcome = some .failed := ho
  unfold reRunToEnd
  refine wpAny_bind (wpAny_reDrive rfl (by rw [ho]; rfl) ?_ (2 ^ 64) (by omega) (by omega))
  refine wpAny_bind (wpAny_rules _ _ _ ?_)
  rw [ho]
  exact wpAny_pure h

/-- a pattern at the top: its words -/
structure IsPat (h : Heap) (pat : Addr) (code : Array Nat) : Prop where
  it : ∃ p0 p1 tup items n, h.get? pat = some { cls := .type "re.Pattern", data := .fields #[p0, p1, .int 0 0, .none, .none, .ref tup, .int 0 0] } ∧
    h.get? tup = some { cls := .type "tuple", data := .seq items n } ∧ (items.map reRawOf).map (·.toNat) = code
theorem IsPat.keeps {h h' : Heap} {pat : Addr} {code : Array Nat} (x : IsPat h pat code) (k : ∀ b o, h.get? b = some o → h'.get? b = some o) : IsPat h' pat code :=
  let ⟨p0, p1, tup, items, n, h1, h2, h3⟩ := x.it; ⟨p0, p1, tup, items, n, k _ _ h1, k _ _ h2, h3⟩

theorem call_search {pat : Addr} {code : Array Nat} {x : Str} {t : Tok} {N : Nat} {Q : Value → Shared → Prop} (hp : IsPat s.heap pat code) (hsz : x.length ≤ sizeLine)
    (hr : Runs (forSearch code x.cps 0 0 x.cps.size false) N Miss) (hN : N ≤ 2 ^ 60) (h : Q .none s) :
    wpAny (model prog w) A (call (.builtin "re.Pattern.search") [.ref pat, .str x t]) Q E s := by
  obtain ⟨p0, p1, tup, items, n, h1, h2, h3⟩ := hp.it
  refine wpAny_call_entry slot_search ⟨_, h1, rfl⟩ entry_search ?_ (args_search _ _)
  unfold Builtin.«re.Pattern.search»
  refine wpAny_bind ?_
  unfold reTarget
  refine wpAny_bind (m := reNamed _ _ _ _ _ _) (wpAny_of_eq (a := [some (.str x t), none, none]) rfl ?_)
  refine wpAny_bind (wpAny_pure ?_)
  refine wpAny_bind (wpAny_pure ?_)
  refine wpAny_bind (wpAny_fieldsOf h1 rfl ?_)
  refine wpAny_bind (wpAny_of_eq (a := (x.cps, 0)) rfl ?_)
  show wpAny _ _ (do reNoCollectionInside (Value.str x t) 0
                     let its ← reRawItems (Value.ref tup)
                     pure ({ pattern := Value.ref pat, string := Value.str x t, code := its.map (·.toNat), text := x.cps, kind := 0, groups := 0, pos := min (0 : Int).toNat x.cps.size, lim := min (2 ^ 63 - 1 : Int).toNat x.cps.size } : ReTarget)) _ _ s
  refine wpAny_bind (wpAny_pure ?_)
  refine wpAny_bind ?_
  unfold reRawItems
  refine wpAny_bind (wpAny_seqItems h2 rfl ?_)
  refine wpAny_pure (wpAny_pure ?_)
  show wpAny _ _ (reAnswer _ (forSearch ((items.map reRawOf).map (·.toNat)) x.cps 0 (min 0 x.cps.size) (min (2 ^ 63 - 1 : Int).toNat x.cps.size) false)) _ _ s
  have hl : min (2 ^ 63 - 1 : Int).toNat x.cps.size = x.cps.size := by
    have : x.cps.size ≤ sizeLine := hsz
    rw [sizeLine_eq] at this
    omega
  rw [h3, hl, Nat.zero_min]
  unfold reAnswer
  exact wpAny_bind (runToEnd_miss hr hN (wpAny_pure ⟨_, rfl, h⟩))
end
end Mine
end

section
set_option maxRecDepth 100000
set_option Elab.async false
open PySem PySem.Sre PySem.Calls PyProof.Rows PySem.Builtin PySem.Builtin.Re
namespace Mine
def cat (l : List Str) : Str := ⟨(l.map fun x => x.cps.toList).flatten.toArray⟩

/-- what a substitution by a written text makes: the pieces -/
inductive Subs (code x : Array Nat) (rp : Str) : Nat → List Str → Prop
  | miss {start N : Nat} : Runs (forSearch code x 0 start x.size false) N Miss → N ≤ 2 ^ 60 → Subs code x rp start (if start < x.size then [⟨x.extract start x.size⟩] else [])
  | hit {start N a b : Nat} {rest : List Str} : Runs (forSearch code x 0 start x.size false) N (Hit a b) → N ≤ 2 ^ 60 → start ≤ a → a < b → Subs code x rp b rest →
      Subs code x rp start ((if start < a then [⟨x.extract start a⟩] else []) ++ rp :: rest)

theorem glued_empty : ∀ (l : List Str) , Builtin.Str.glued ⟨#[]⟩ l = cat l := by
  intro l
  cases l with
  | nil => rfl
  | cons a l =>
    show (⟨l.foldl (fun acc p => acc ++ (#[] : Array Nat) ++ p.cps) a.cps⟩ : Str) = _
    have : ∀ (l : List Str) (acc : Array Nat), l.foldl (fun acc (p : Str) => acc ++ (#[] : Array Nat) ++ p.cps) acc = (acc.toList ++ (l.map fun x => x.cps.toList).flatten).toArray := by
      intro l
      induction l with
      | nil => intro acc; simp
      | cons b l ih => intro acc; rw [List.foldl_cons, ih]; simp [List.append_assoc]
    rw [this]; simp [cat]

def loopC (pat : Addr) (x : Str) (xt : Tok) (rp : Str) (rt : Tok) (n : Int) (start : Nat) (list : Addr) : Code :=
  .builtin "re.Pattern.sub.loop" ⟨[.ref pat, .str x xt, .str rp rt, rawInt 0, rawInt 0, rawInt n, rawInt start, rawInt start, .bool false, .ref list, .bool false], []⟩

section
variable {prog : Program} {w : World} {A : Around} {E : Value → Shared → Prop} {s : Shared}

theorem wpAny_whole {pat : Addr} {code : Array Nat} {x : Str} {t : Tok} {Q : ReTarget → Shared → Prop} (hp : IsPat s.heap pat code)
    (h : Q { pattern := .ref pat, string := .str x t, code, text := x.cps, kind := 0, groups := 0, pos := 0, lim := x.cps.size } s) :
    wpAny (model prog w) A (reWholeTarget (.ref pat) (.str x t)) Q E s := by
  obtain ⟨p0, p1, tup, items, n, h1, h2, h3⟩ := hp.it
  unfold reWholeTarget
  refine wpAny_bind (wpAny_fieldsOf h1 rfl ?_)
  refine wpAny_bind (wpAny_of_eq (a := (x.cps, 0)) rfl ?_)
  show wpAny _ _ (do reNoCollectionInside (Value.str x t) 0
                     let its ← reRawItems (Value.ref tup)
                     pure ({ pattern := Value.ref pat, string := Value.str x t, code := its.map (·.toNat), text := x.cps, kind := 0, groups := 0, pos := 0, lim := x.cps.size } : ReTarget)) _ _ s
  refine wpAny_bind (wpAny_pure ?_)
  refine wpAny_bind ?_
  unfold reRawItems
  refine wpAny_bind (wpAny_seqItems h2 rfl ?_)
  refine wpAny_pure (wpAny_pure ?_)
  show Q { pattern := .ref pat, string := .str x t, code := (items.map reRawOf).map (·.toNat), text := x.cps, kind := 0, groups := 0, pos := 0, lim := x.cps.size } s
  rw [h3]; exact h

theorem IsPat.ne {h : Heap} {pat list : Addr} {code : Array Nat} {its : Array Value} {ep : Nat} (x : IsPat h pat code) (l : IsL h list its ep) : ∀ h', Heap.SameBut list h h' → IsPat h' pat code := by
  intro h' hs
  obtain ⟨p0, p1, tup, items, n, h1, h2, h3⟩ := x.it
  have n1 : pat ≠ list := by rintro rfl; exact absurd (h1.symm.trans l) (by simp)
  have n2 : tup ≠ list := by rintro rfl; exact absurd (h2.symm.trans l) (by simp)
  exact ⟨p0, p1, tup, items, n, (hs.2 _ n1).trans h1, (hs.2 _ n2).trans h2, h3⟩

theorem isL_push {h : Heap} {l : Addr} {L : List (Str × Tok)} {ep : Nat} (x : IsL h l (strValues L).toArray ep) (y : Str) (u : Tok) :
    ∃ ep', IsL (h.update l (Obj.mapSeq (·.push (.str y u)))) l (strValues (L ++ [(y, u)])).toArray ep' := by
  have e : (strValues (L ++ [(y, u)])).toArray = (strValues L).toArray.push (.str y u) := by simp [strValues]
  rw [e]; exact ⟨_, x.update (·.push (.str y u))⟩

theorem cat_length (l : List Str) : ∀ n, l.foldl (fun a (y : Str) => a + y.length + 0) n = n + (cat l).length := by
  have e : ∀ l : List Str, (cat l).length = (l.map fun x => x.cps.toList).flatten.length := fun l => by show (cat l).cps.size = _; simp [cat]
  induction l with
  | nil => intro n; rfl
  | cons a l ih =>
    intro n
    rw [List.foldl_cons, ih, e, e, List.map_cons, List.flatten_cons, List.length_append]
    have := Array.length_toList (xs := a.cps)
    show n + a.cps.size + 0 + _ = _
    omega

theorem call_join {a : Addr} {t : Tok} {l : List (Str × Tok)} {Q : Value → Shared → Prop} (hl : s.heap.IsList a (strValues l).toArray) (hlen : (cat (l.map (·.1))).length ≤ sizeLine)
    (h : ∀ u t', Q (.str (cat (l.map (·.1))) u) { s with toks := t' }) : wpAny (model prog w) A (call (.builtin "str.join") [.str ⟨#[]⟩ t, .ref a]) Q E s := by
  refine call_meets F.slot_str_join (typeIs_str s _ t) F.entry_str_join (F.args_str_join_2 _ _) (meets_str_join_list ⟨#[]⟩ t a l ?_) ⟨hl, ?_⟩
  · rw [List.foldl_toArray]
    have := cat_length (l.map (·.1)) 0
    unfold Builtin.Str.tooLong
    show decide ((l.map (·.1)).foldl (fun a (y : Str) => a + y.length + 0) 0 > sizeLine) = false
    rw [this]
    exact decide_eq_false (by omega)
  · unfold joinMade
    split
    · rename_i p
      have := h p.2 s.toks
      have e : cat ([p].map (·.1)) = p.1 := by simp [cat]
      rw [e] at this
      exact this
    · rw [glued_empty]
      exact ⟨hlen, h _ _⟩

theorem wpAny_slice {x : Array Nat} {b e : Nat} {Q : Value → Shared → Prop} (hsz : (⟨x.extract b e⟩ : Str).length ≤ sizeLine) (h : ∀ u t', Q (.str ⟨x.extract b e⟩ u) { s with toks := t' }) :
    wpAny (model prog w) A (reSlice x 0 b e) Q E s := wpAny_mkStr (h _ _) hsz
theorem extract_le (x : Str) (b e : Nat) : (⟨x.cps.extract b e⟩ : Str).length ≤ x.length := by
  show (x.cps.extract b e).size ≤ x.cps.size
  rw [Array.size_extract]; omega

theorem sub_tail {x : Str} {list : Addr} {L : List (Str × Tok)} {ep : Nat} {Q : Fin → Shared → Prop} (hl : IsL s.heap list (strValues L).toArray ep)
    (hlen : (cat (L.map (·.1))).length ≤ sizeLine) (h : ∀ u t', Q (.done (.ret (.str (cat (L.map (·.1))) u))) { s with toks := t' }) :
    wpAny (model prog w) A (reSlice x.cps 0 0 0 >>= fun joiner => seqItems? (.ref list) >>= fun its => if (its.getD #[]).isEmpty = true then (pure joiner >>= fun text => ret text) else (call (.builtin "str.join") [joiner, .ref list] >>= fun text => ret text)) Q E s := by
  have e0 : x.cps.extract 0 0 = #[] := by simp
  refine wpAny_bind (wpAny_slice (by rw [e0]; exact Nat.zero_le _) fun u t' => ?_)
  rw [e0]
  refine wpAny_bind (wpAny_seqItems hl rfl ?_)
  show wpAny _ _ (if (strValues L).toArray.isEmpty = true then _ else _) _ _ _
  split
  · rename_i hem
    refine wpAny_bind (wpAny_pure (wpAny_pure ?_))
    have : L = [] := by
      have : (strValues L).toArray.isEmpty = true := hem
      cases L with
      | nil => rfl
      | cons a l => simp [strValues] at this
    subst this
    exact h _ _
  · refine wpAny_bind (call_join hl.isList hlen fun u' t'' => wpAny_pure ?_)
    exact h _ _

theorem codeAny_subLoop {pat : Addr} {code : Array Nat} {x : Str} {xt : Tok} {rp : Str} {rt : Tok} (hx : x.length ≤ sizeLine) {start : Nat} {ps : List Str} (T : Subs code x.cps rp start ps) :
    ∀ {A : Around} {R : Result → Shared → Prop} {s : Shared} {n : Int} {L : List (Str × Tok)} {list : Addr} {ep : Nat} (_ : IsPat s.heap pat code) (_ : IsL s.heap list (strValues L).toArray ep)
      (_ : L.length + ps.length ≤ sizeLine) (_ : (cat (L.map (·.1) ++ ps)).length ≤ sizeLine)
      (_ : ∀ h' t' u, Heap.SameBut list s.heap h' → R (.ok (.ret (.str (cat (L.map (·.1) ++ ps)) u))) { s with heap := h', toks := t' }),
      codeAny (model prog w) A (loopC pat x xt rp rt n start list) R s := by
  induction T with
  | @miss start N hr hN =>
    intro A R s n L list ep hp hl hsz hlen h
    refine codeAny_builtin entry_subloop ?_
    rw [Around.under_plainId (by decide +kernel)]
    show wpAny _ _ (reWholeTarget (.ref pat) (.str x xt) >>= _) _ _ s
    refine wpAny_bind (wpAny_whole hp ?_)
    show wpAny _ _ (reLiteralCannotBeTurned (.str rp rt) >>= _) _ _ s
    refine wpAny_bind (wpAny_pure ?_)
    show wpAny _ _ (reNextFound { pattern := Value.ref pat, string := Value.str x xt, code := code, text := x.cps, kind := 0, groups := 0, pos := 0, lim := x.cps.size } start false >>= _) _ _ s
    refine wpAny_bind ?_
    unfold reNextFound
    refine runToEnd_miss hr hN ?_
    have htail (P : Sem Fin) : P = (if start < x.cps.size then (reSlice x.cps 0 start x.cps.size >>= fun v => updateSeq list (·.push v) >>= fun _ => reSlice x.cps 0 0 0 >>= fun joiner => seqItems? (.ref list) >>= fun its => if (its.getD #[]).isEmpty = true then (pure joiner >>= fun text => ret text) else (call (.builtin "str.join") [joiner, .ref list] >>= fun text => ret text))
        else (reSlice x.cps 0 0 0 >>= fun joiner => seqItems? (.ref list) >>= fun its => if (its.getD #[]).isEmpty = true then (pure joiner >>= fun text => ret text) else (call (.builtin "str.join") [joiner, .ref list] >>= fun text => ret text))) →
        wpAny (model prog w) A.in1 P (fun fin s' => match fin with | .done f => R (.ok f) s' | .again c' => c'.quiet = true ∧ codeAny (model prog w) A c' R s') (fun e s' => R (.error e) s') s := by
      rintro rfl
      by_cases hlt : start < x.cps.size
      · rw [if_pos hlt] at hsz hlen h ⊢
        refine wpAny_bind (wpAny_slice (Nat.le_trans (extract_le x _ _) hx) fun u t' => ?_)
        obtain ⟨ep', hl'⟩ := isL_push hl ⟨x.cps.extract start x.cps.size⟩ u
        refine wpAny_bind (wpAny_updateSeq hl rfl ?_ (by simp [strValues]; simp at hsz; omega) (by simp [strValues]; simp at hsz; omega))
        refine sub_tail (L := L ++ [(⟨x.cps.extract start x.cps.size⟩, u)]) hl' ?_ fun u' t'' => ?_
        · simpa using hlen
        · have := h _ t'' u' (Heap.SameBut.update s.heap list (Obj.mapSeq fun xs => xs.push (.str ⟨x.cps.extract start x.cps.size⟩ u)))
          simpa using this
      · rw [if_neg hlt] at hsz hlen h ⊢
        refine sub_tail (L := L) hl ?_ fun u' t'' => ?_
        · simpa using hlen
        · have := h _ t'' u' (Heap.SameBut.refl list s.heap)
          simpa using this
    exact htail _ rfl
  | @hit start N a b rest hr hN hsa hab T ih =>
    intro A R s n L list ep hp hl hsz hlen h
    refine codeAny_builtin entry_subloop ?_
    rw [Around.under_plainId (by decide +kernel)]
    show wpAny _ _ (reWholeTarget (.ref pat) (.str x xt) >>= _) _ _ s
    refine wpAny_bind (wpAny_whole hp ?_)
    show wpAny _ _ (reLiteralCannotBeTurned (.str rp rt) >>= _) _ _ s
    refine wpAny_bind (wpAny_pure ?_)
    show wpAny _ _ (reNextFound { pattern := Value.ref pat, string := Value.str x xt, code := code, text := x.cps, kind := 0, groups := 0, pos := 0, lim := x.cps.size } start false >>= _) _ _ s
    refine wpAny_bind ?_
    unfold reNextFound
    refine runToEnd_hit hr hN fun m' hms hmh => ?_
    have htail (P : Sem Fin) : P = (if start < a then (reSlice x.cps 0 start a >>= fun v => updateSeq list (·.push v) >>= fun _ => (pure (.str rp rt) >>= fun item => updateSeq list (·.push item) >>= fun _ => again (loopC pat x xt rp rt (n + 1) b list)))
        else (pure (.str rp rt) >>= fun item => updateSeq list (·.push item) >>= fun _ => again (loopC pat x xt rp rt (n + 1) b list))) →
        wpAny (model prog w) A.in1 P (fun fin s' => match fin with | .done f => R (.ok f) s' | .again c' => c'.quiet = true ∧ codeAny (model prog w) A c' R s') (fun e s' => R (.error e) s') s := by
      rintro rfl
      have fin : ∀ (L' : List (Str × Tok)) (ep' : Nat) (h' : Heap) (t' : Nat), IsL h' list (strValues L').toArray ep' → L'.map (·.1) = L.map (·.1) ++ (if start < a then [⟨x.cps.extract start a⟩] else []) → Heap.SameBut list s.heap h' →
          wpAny (model prog w) A.in1 (pure (.str rp rt) >>= fun item => updateSeq list (·.push item) >>= fun _ => again (loopC pat x xt rp rt (n + 1) b list))
            (fun fin s' => match fin with | .done f => R (.ok f) s' | .again c' => c'.quiet = true ∧ codeAny (model prog w) A c' R s') (fun e s' => R (.error e) s') { s with heap := h', toks := t' } := by
        intro L' ep' h' t' hl' hL' hs'
        have hlenL : L'.length = L.length + (if start < a then [(⟨x.cps.extract start a⟩ : Str)] else []).length := by
          have := congrArg List.length hL'
          simpa using this
        obtain ⟨ep'', hl''⟩ := isL_push hl' rp rt
        refine wpAny_bind (wpAny_pure (wpAny_bind (wpAny_updateSeq hl' rfl ?_ (by simp [strValues]; simp at hsz hlenL; omega) (by simp [strValues]; simp at hsz hlenL; omega))))
        refine wpAny_pure ⟨plainId_quiet (by decide +kernel) _, ?_⟩
        have hs'' := hs'.trans (Heap.SameBut.update h' list (Obj.mapSeq (·.push (.str rp rt))))
        have eq2 : (L' ++ [(rp, rt)]).map (·.1) ++ rest = L.map (·.1) ++ ((if start < a then [(⟨x.cps.extract start a⟩ : Str)] else []) ++ rp :: rest) := by
          rw [List.map_append, hL']; simp [List.append_assoc]
        refine ih (L := L' ++ [(rp, rt)]) (hp.ne hl _ hs'') hl'' ?_ ?_ fun h3 t3 u hs3 => ?_
        · simp at hsz hlenL ⊢; omega
        · rw [eq2]; exact hlen
        · rw [eq2]; exact h h3 t3 u (hs''.trans hs3)
      by_cases hlt : start < a
      · rw [if_pos hlt]
        refine wpAny_bind (wpAny_slice (Nat.le_trans (extract_le x _ _) hx) fun u t' => ?_)
        obtain ⟨ep', hl'⟩ := isL_push hl ⟨x.cps.extract start a⟩ u
        refine wpAny_bind (wpAny_updateSeq hl rfl ?_ (by simp [strValues]; simp at hsz; omega) (by simp [strValues]; simp at hsz; omega))
        exact fin _ ep' _ _ hl' (by simp [hlt]) (Heap.SameBut.update ..)
      · rw [if_neg hlt]
        exact fin L ep _ s.toks hl (by simp [hlt]) (Heap.SameBut.refl ..)
    refine htail _ ?_
    have hne : (m'.handed == m'.start) = false := by rw [hms, hmh]; exact beq_false_of_ne (by omega)
    show (if start < m'.start then _ else _) = _
    subst hms hmh
    rw [show loopC pat x xt rp rt (n + 1) m'.handed list = Code.builtin "re.Pattern.sub.loop" ⟨[.ref pat, .str x xt, .str rp rt, rawInt 0, rawInt 0, rawInt (n + 1), rawInt m'.handed, rawInt m'.handed, .bool (m'.handed == m'.start), .ref list, .bool false], []⟩ from by rw [hne]; rfl]
    rfl
end
end Mine
end

section
set_option maxRecDepth 100000
set_option Elab.async false
open PySem PySem.Sre PySem.Calls PyProof.Rows PySem.Builtin PySem.Builtin.Re
namespace Mine
theorem no_str_call : typeLookup (.type "str") "__call__" = pure none := by rw [typeLookup_type, builtinLookup_eq_fast]; kernel_rfl
section
variable {prog : Program} {w : World} {A : Around} {E : Value → Shared → Prop} {s : Shared}
theorem call_sub {pat : Addr} {code : Array Nat} {x : Str} {xt : Tok} {rp : Str} {rt : Tok} {ps : List Str} {Q : Value → Shared → Prop} (hp : IsPat s.heap pat code) (hx : x.length ≤ sizeLine) (h92 : rp.cps.contains 92 = false)
    (T : Subs code x.cps rp 0 ps) (hsz : ps.length ≤ sizeLine) (hlen : (cat ps).length ≤ sizeLine)
    (h : ∀ h' t' u, (∀ b o, s.heap.get? b = some o → h'.get? b = some o) → Q (.str (cat ps) u) { s with heap := h', toks := t' }) :
    wpAny (model prog w) A (call (.builtin "re.Pattern.sub") [.ref pat, .str rp rt, .str x xt]) Q E s := by
  obtain ⟨p0, p1, tup, items, n, h1, h2, h3⟩ := id hp.it
  refine wpAny_call (codeAny_call_builtin slot_sub.plain entry_sub (slot_sub.check _ _ _ _ _ _ _ _ ⟨_, h1, rfl⟩ (args_sub _ _ _) ?_))
  show wpAny _ _ (reNamed _ _ _ _ _ _ >>= _) _ _ s
  refine wpAny_bind (wpAny_of_eq (a := [some (.str rp rt), some (.str x xt), none]) rfl ?_)
  show wpAny _ _ ((pure 0 : Sem Int) >>= _) _ _ s
  refine wpAny_bind (wpAny_pure ?_)
  refine wpAny_bind (wpAny_specialOf (typeIs_str s _ _) no_str_call ?_)
  show wpAny _ _ (asStr? (.str rp rt) >>= _) _ _ s
  refine wpAny_bind (wpAny_pure ?_)
  show wpAny _ _ ((pure (!rp.cps.contains 92) : Sem Bool) >>= _) _ _ s
  refine wpAny_bind (wpAny_pure ?_)
  rw [h92]
  show wpAny _ _ ((pure (Value.str rp rt, 0) : Sem (Value × Int)) >>= _) _ _ s
  refine wpAny_bind (wpAny_pure ?_)
  show wpAny _ _ (holding [.str rp rt] (reWholeTarget (.ref pat) (.str x xt)) >>= _) _ _ s
  refine wpAny_bind (wpAny_holding (wpAny_whole hp ?_))
  show wpAny _ _ (newList [] >>= fun l => again (.builtin "re.Pattern.sub.loop" ⟨[.ref pat, .str x xt, .str rp rt, rawInt 0, rawInt 0, rawInt 0, rawInt 0, rawInt 0, .bool false, l, .bool false], []⟩)) _ _ s
  refine wpAny_bind (wpAny_newObj_type ?_ (by show 0 ≤ sizeLine; exact Nat.zero_le _))
  refine wpAny_pure ⟨plainId_quiet (by decide +kernel) _, ?_⟩
  have hk : ∀ b o, s.heap.get? b = some o → (s.heap.push { cls := .type "list", data := .seq #[] }).get? b = some o := fun b o e => Heap.get?_push_of_some _ e
  refine codeAny_subLoop hx T (n := 0) (L := []) (list := s.heap.objs.size) (ep := 0) (hp.keeps hk) (Heap.get?_push_size _ rfl) (by simpa using hsz) (by simpa using hlen) fun h' t' u hs => ?_
  exact h h' t' u fun b o e => (hs.2 b (Nat.ne_of_lt (Heap.lt_size e))).trans (hk b o e)
end
end Mine
end

section
set_option maxRecDepth 100000
set_option Elab.async false
open PySem PySem.Sre PySem.Calls PyProof.Rows PySem.Builtin PySem.Builtin.Re
namespace Mine
def lines (e : List Nat) (bs : List (List Nat)) : List Nat := (bs.map (· ++ e)).flatten
theorem lines_cons (e b : List Nat) (bs : List (List Nat)) : lines e (b :: bs) = b ++ e ++ lines e bs := by simp [lines]
def crlf : Str := ⟨#[13, 10]⟩
def dd : Str := ⟨#[46, 46]⟩
def clean (b : List Nat) : Prop := ∀ c ∈ b, c ≠ 10 ∧ c ≠ 13

theorem gd (l : List Nat) (i : Nat) : l.toArray.getD i 0 = l.getD i 0 := by
  simp [Array.getD_eq_getD_getElem?, List.getD_eq_getElem?_getD]
theorem gd_mid (p b t : List Nat) (i : Nat) (h : i < b.length) : (p ++ b ++ t).getD (p.length + i) 0 = b.getD i 0 := by
  rw [List.getD_eq_getElem?_getD, List.getD_eq_getElem?_getD, List.getElem?_append_left (by simp; omega), List.getElem?_append_right (by omega), Nat.add_sub_cancel_left]
theorem gd_end (p b t : List Nat) (i : Nat) : (p ++ b ++ t).getD (p.length + b.length + i) 0 = t.getD i 0 := by
  rw [List.getD_eq_getElem?_getD, List.getD_eq_getElem?_getD, List.getElem?_append_right (by simp), show p.length + b.length + i - (p ++ b).length = i by simp]
theorem ext_mid (p b t : List Nat) : (p ++ b ++ t).toArray.extract p.length (p.length + b.length) = b.toArray := by
  rw [List.extract_toArray]
  congr 1
  simp [List.append_assoc, Nat.add_sub_cancel_left]
theorem getD_mem {b : List Nat} {i : Nat} (h : i < b.length) : b.getD i 0 ∈ b := by
  rw [List.getD_eq_getElem?_getD, List.getElem?_eq_getElem h]; exact List.getElem_mem h

theorem subs2 {e : List Nat} (he : e = [10] ∨ e = [13] ∨ e = [13, 10]) : ∀ (bs : List (List Nat)) (pre : List Nat), (∀ b ∈ bs, clean b ∧ ∃ b', b = 46 :: b') →
    Subs code2 (pre ++ lines e bs).toArray crlf pre.length (bs.flatMap fun b => [⟨b.toArray⟩, crlf]) := by
  intro bs
  induction bs with
  | nil =>
    intro pre _
    have := Subs.miss (code := code2) (x := (pre ++ lines e []).toArray) (rp := crlf) (start := pre.length) (N := 1) (search2_miss fun i h1 h2 => by simp [lines] at h2; omega) (by decide)
    simpa [lines] using this
  | cons b bs ih =>
    intro pre hb
    obtain ⟨hc, b', hb'⟩ := hb b (.head _)
    have hx : pre ++ lines e (b :: bs) = pre ++ b ++ (e ++ lines e bs) := by rw [lines_cons]; simp [List.append_assoc]
    have hx2 : pre ++ lines e (b :: bs) = (pre ++ b ++ e) ++ lines e bs := by rw [lines_cons]; simp [List.append_assoc]
    have hn : (pre ++ lines e (b :: bs)).toArray.size = pre.length + b.length + (e.length + (lines e bs).length) := by rw [hx]; simp; omega
    have hlt : pre.length < pre.length + b.length := by rw [hb']; simp
    have hno : ∀ i, pre.length ≤ i → i < pre.length + b.length → ((pre ++ lines e (b :: bs)).toArray.getD i 0 == 10 || (pre ++ lines e (b :: bs)).toArray.getD i 0 == 13) = false := by
      intro i h1 h2
      have : (pre ++ lines e (b :: bs)).toArray.getD i 0 = b.getD (i - pre.length) 0 := by
        rw [gd, hx]
        have := gd_mid pre b (e ++ lines e bs) (i - pre.length) (by omega)
        rw [← this]; congr 1; omega
      rw [this]
      obtain ⟨n1, n2⟩ := hc _ (getD_mem (b := b) (i := i - pre.length) (by omega))
      rw [beq_false_of_ne n1, beq_false_of_ne n2]; rfl
    have hat : ∀ j, (pre ++ lines e (b :: bs)).toArray.getD (pre.length + b.length + j) 0 = (e ++ lines e bs).getD j 0 := by
      intro j; rw [gd, hx]; exact gd_end pre b _ j
    have rest := ih (pre ++ b ++ e) fun c h => hb c (.tail _ h)
    rw [← hx2] at rest
    have hext : (pre ++ lines e (b :: bs)).toArray.extract pre.length (pre.length + b.length) = b.toArray := by rw [hx]; exact ext_mid _ _ _
    have fin : ∀ N, Runs (forSearch code2 (pre ++ lines e (b :: bs)).toArray 0 pre.length (pre ++ lines e (b :: bs)).toArray.size false) N (Hit (pre.length + b.length) (pre.length + b.length + e.length)) → N ≤ 2 ^ 60 → 0 < e.length →
        Subs code2 (pre ++ lines e (b :: bs)).toArray crlf pre.length ((b :: bs).flatMap fun b => [⟨b.toArray⟩, crlf]) := by
      intro N hr hN hel
      have e1 : (pre ++ b ++ e).length = pre.length + b.length + e.length := by simp; omega
      rw [e1] at rest
      have := Subs.hit hr hN (by omega) (by omega) rest
      rw [if_pos hlt, hext] at this
      simpa using this
    have h0 := hat 0
    have h1 := hat 1
    rw [Nat.add_zero] at h0
    rcases he with rfl | rfl | rfl
    · refine fin 20 (search2_at (by omega) (by rw [hn]; simp; omega) (by rw [h0]; rfl) hno fun seen => hit2_nl _ _ _ _ (by rw [hn]; simp; omega) (by rw [h0]; rfl)) (by decide) (by decide)
    · refine fin 20 (search2_at (by omega) (by rw [hn]; simp; omega) (by rw [h0]; rfl) hno fun seen => hit2_cr _ _ _ _ (by rw [hn]; simp; omega) (by rw [h0]; rfl) fun _ => ?_) (by decide) (by decide)
      rw [h1]
      cases bs with
      | nil => simp [lines]
      | cons c cs =>
        obtain ⟨_, c', hc'⟩ := hb c (.tail _ (.head _))
        rw [lines_cons, hc']; simp
    · refine fin 20 (search2_at (by omega) (by rw [hn]; simp; omega) (by rw [h0]; rfl) hno fun seen => hit2_crlf _ _ _ _ (by rw [hn]; simp; omega) (by rw [h0]; rfl) (by rw [h1]; rfl)) (by decide) (by decide)

theorem no_bol (p b t : List Nat) (hb : ∀ c ∈ b, c ≠ 10) (i : Nat) (h1 : (p ++ [46]).length ≤ i) (h2 : i < (p ++ [46]).length + (b ++ [13, 10]).length) :
    (i == 0 || (p ++ [46] ++ (b ++ [13, 10]) ++ t).toArray.getD (i - 1) 0 == 10) = false := by
  have l1 : (p ++ [46]).length = p.length + 1 := by simp
  have l2 : (b ++ [13, 10]).length = b.length + 2 := by simp
  rw [l1] at h1 h2
  rw [l2] at h2
  have hi : (i == 0) = false := beq_false_of_ne (by omega)
  rw [hi, Bool.false_or, gd]
  by_cases hp : i = p.length + 1
  · have : (p ++ [46] ++ (b ++ [13, 10]) ++ t).getD (i - 1) 0 = 46 := by
      have := gd_mid p [46] ((b ++ [13, 10]) ++ t) 0 (by simp)
      rw [hp, Nat.add_sub_cancel, List.append_assoc]; exact this
    rw [this]; rfl
  · have : (p ++ [46] ++ (b ++ [13, 10]) ++ t).getD (i - 1) 0 = (b ++ [13, 10]).getD (i - 1 - (p.length + 1)) 0 := by
      have := gd_mid (p ++ [46]) (b ++ [13, 10]) t (i - 1 - (p.length + 1)) (by rw [l2]; omega)
      rw [l1, show p.length + 1 + (i - 1 - (p.length + 1)) = i - 1 by omega] at this
      exact this
    rw [this]
    by_cases hj : i - 1 - (p.length + 1) < b.length
    · rw [List.getD_eq_getElem?_getD, List.getElem?_append_left hj, ← List.getD_eq_getElem?_getD]
      exact beq_false_of_ne (hb _ (getD_mem hj))
    · have : i - 1 - (p.length + 1) = b.length := by omega
      rw [this, List.getD_eq_getElem?_getD, List.getElem?_append_right (Nat.le_refl _), Nat.sub_self]; rfl

theorem subs1_from : ∀ (bs : List (List Nat)) (p b : List Nat), (∀ c ∈ b, c ≠ 10) → (∀ b ∈ bs, ∀ c ∈ b, c ≠ 10) → (p ++ [46] ++ ((b ++ [13, 10]) ++ lines [13, 10] (bs.map (46 :: ·)))).length ≤ 2 ^ 24 →
    Subs code1 (p ++ [46] ++ ((b ++ [13, 10]) ++ lines [13, 10] (bs.map (46 :: ·)))).toArray dd (p ++ [46]).length (⟨(b ++ [13, 10]).toArray⟩ :: bs.flatMap fun b => [dd, ⟨(b ++ [13, 10]).toArray⟩]) := by
  intro bs
  induction bs with
  | nil =>
    intro p b hb _ hsz
    have hx : p ++ [46] ++ ((b ++ [13, 10]) ++ lines [13, 10] (([] : List (List Nat)).map (46 :: ·))) = p ++ [46] ++ (b ++ [13, 10]) ++ [] := by simp [lines]
    rw [hx] at hsz ⊢
    have hn : (p ++ [46] ++ (b ++ [13, 10]) ++ []).toArray.size = (p ++ [46]).length + (b ++ [13, 10]).length := by simp; omega
    have hs : (p ++ [46] ++ (b ++ [13, 10]) ++ []).toArray.size ≤ 2 ^ 24 := hsz
    have hm : Runs (forSearch code1 (p ++ [46] ++ (b ++ [13, 10]) ++ []).toArray 0 (p ++ [46]).length (p ++ [46] ++ (b ++ [13, 10]) ++ []).toArray.size false) (6 + 2 * (p ++ [46] ++ (b ++ [13, 10]) ++ []).toArray.size) Miss :=
      search1_miss (by rw [hn]; omega) fun i h1 h2 => no_bol p b [] hb i h1 (by rw [hn] at h2; exact h2)
    have := Subs.miss (rp := dd) hm (by omega)
    rw [if_pos (by rw [hn]; simp), hn, ext_mid] at this
    simpa using this
  | cons c bs ih =>
    intro p b hb hbs hsz
    have hx : p ++ [46] ++ ((b ++ [13, 10]) ++ lines [13, 10] ((c :: bs).map (46 :: ·))) = p ++ [46] ++ (b ++ [13, 10]) ++ (46 :: c ++ [13, 10] ++ lines [13, 10] (bs.map (46 :: ·))) := by
      rw [List.map_cons, lines_cons]; simp [List.append_assoc]
    have hx2 : p ++ [46] ++ (b ++ [13, 10]) ++ (46 :: c ++ [13, 10] ++ lines [13, 10] (bs.map (46 :: ·))) = (p ++ [46] ++ (b ++ [13, 10])) ++ [46] ++ ((c ++ [13, 10]) ++ lines [13, 10] (bs.map (46 :: ·))) := by simp [List.append_assoc]
    rw [hx] at hsz ⊢
    have rest := ih (p ++ [46] ++ (b ++ [13, 10])) c (fun x h => hbs c (.head _) x h) (fun y h => hbs y (.tail _ h)) (by rw [← hx2]; exact hsz)
    rw [← hx2] at rest
    have hn : (p ++ [46] ++ (b ++ [13, 10]) ++ (46 :: c ++ [13, 10] ++ lines [13, 10] (bs.map (46 :: ·)))).toArray.size = (p ++ [46]).length + (b ++ [13, 10]).length + (c.length + 3 + (lines [13, 10] (bs.map (46 :: ·))).length) := by
      simp; omega
    have hs : (p ++ [46] ++ (b ++ [13, 10]) ++ (46 :: c ++ [13, 10] ++ lines [13, 10] (bs.map (46 :: ·)))).toArray.size ≤ 2 ^ 24 := hsz
    have h46 : (p ++ [46] ++ (b ++ [13, 10]) ++ (46 :: c ++ [13, 10] ++ lines [13, 10] (bs.map (46 :: ·)))).toArray.getD ((p ++ [46]).length + (b ++ [13, 10]).length) 0 = 46 := by
      rw [gd]
      have := gd_end (p ++ [46]) (b ++ [13, 10]) (46 :: c ++ [13, 10] ++ lines [13, 10] (bs.map (46 :: ·))) 0
      rw [Nat.add_zero] at this
      rw [this]; rfl
    have h10 : (p ++ [46] ++ (b ++ [13, 10]) ++ (46 :: c ++ [13, 10] ++ lines [13, 10] (bs.map (46 :: ·)))).toArray.getD ((p ++ [46]).length + (b ++ [13, 10]).length - 1) 0 = 10 := by
      rw [gd]
      have := gd_mid (p ++ [46]) (b ++ [13, 10]) (46 :: c ++ [13, 10] ++ lines [13, 10] (bs.map (46 :: ·))) (b.length + 1) (by simp)
      have hidx : (p ++ [46]).length + (b ++ [13, 10]).length - 1 = (p ++ [46]).length + (b.length + 1) := by rw [List.length_append (as := b)]; show _ + (b.length + 2) - 1 = _; omega
      rw [hidx, this, List.getD_eq_getElem?_getD, List.getElem?_append_right (by omega), show b.length + 1 - b.length = 1 by omega]
      rfl
    have hm := search1_at (text := (p ++ [46] ++ (b ++ [13, 10]) ++ (46 :: c ++ [13, 10] ++ lines [13, 10] (bs.map (46 :: ·)))).toArray) (n := (p ++ [46] ++ (b ++ [13, 10]) ++ (46 :: c ++ [13, 10] ++ lines [13, 10] (bs.map (46 :: ·)))).toArray.size)
      (start := (p ++ [46]).length) (q := (p ++ [46]).length + (b ++ [13, 10]).length) (by omega) (by rw [hn]; omega) h46 (by rw [h10]; simp) fun i h1 h2 => no_bol p b _ hb i h1 h2
    have e1 : ((p ++ [46] ++ (b ++ [13, 10])) ++ [46]).length = (p ++ [46]).length + (b ++ [13, 10]).length + 1 := by simp; omega
    rw [e1] at rest
    have := Subs.hit hm (by omega) (by omega) (by omega) rest
    rw [if_pos (by simp), ext_mid] at this
    simpa using this

theorem subs1 (bs : List (List Nat)) (b : List Nat) (hb : ∀ y ∈ b :: bs, ∀ c ∈ y, c ≠ 10) (hsz : (lines [13, 10] ((b :: bs).map (46 :: ·))).length ≤ 2 ^ 24) :
    Subs code1 (lines [13, 10] ((b :: bs).map (46 :: ·))).toArray dd 0 ((b :: bs).flatMap fun b => [dd, ⟨(b ++ [13, 10]).toArray⟩]) := by
  have hx : lines [13, 10] ((b :: bs).map (46 :: ·)) = [] ++ [46] ++ ((b ++ [13, 10]) ++ lines [13, 10] (bs.map (46 :: ·))) := by
    rw [List.map_cons, lines_cons]; simp
  rw [hx] at hsz ⊢
  have rest := subs1_from bs [] b (hb b (.head _)) (fun y h => hb y (.tail _ h)) hsz
  have hs : ([] ++ [46] ++ ((b ++ [13, 10]) ++ lines [13, 10] (bs.map (46 :: ·)))).toArray.size ≤ 2 ^ 24 := hsz
  have hm := search1_at (text := ([] ++ [46] ++ ((b ++ [13, 10]) ++ lines [13, 10] (bs.map (46 :: ·)))).toArray) (n := ([] ++ [46] ++ ((b ++ [13, 10]) ++ lines [13, 10] (bs.map (46 :: ·)))).toArray.size)
    (start := 0) (q := 0) (Nat.le_refl _) (by simp) (by rw [gd]; rfl) rfl fun i h1 h2 => by omega
  have := Subs.hit hm (by omega) (by omega) (by omega) rest
  rw [if_neg (by omega)] at this
  simpa using this

theorem cat_append (a b : List Str) : (cat (a ++ b)).cps.toList = (cat a).cps.toList ++ (cat b).cps.toList := by simp [cat]
theorem cat2 (bs : List (List Nat)) : cat (bs.flatMap fun b => [⟨b.toArray⟩, crlf]) = ⟨(lines [13, 10] bs).toArray⟩ := by
  have : (cat (bs.flatMap fun b => [⟨b.toArray⟩, crlf])).cps.toList = lines [13, 10] bs := by
    induction bs with
    | nil => rfl
    | cons b bs ih => rw [List.flatMap_cons, cat_append, ih, lines_cons]; simp [cat, crlf]
  rw [← this]
theorem cat1 (bs : List (List Nat)) : cat (bs.flatMap fun b => [dd, ⟨(b ++ [13, 10]).toArray⟩]) = ⟨(lines [13, 10] (bs.map fun b => 46 :: 46 :: b)).toArray⟩ := by
  have : (cat (bs.flatMap fun b => [dd, ⟨(b ++ [13, 10]).toArray⟩])).cps.toList = lines [13, 10] (bs.map fun b => 46 :: 46 :: b) := by
    induction bs with
    | nil => rfl
    | cons b bs ih => rw [List.flatMap_cons, cat_append, ih, List.map_cons, lines_cons]; simp [cat, dd]
  rw [← this]
end Mine
end

section
set_option maxRecDepth 100000
set_option Elab.async false
open PySem PySem.Sre PySem.Calls PySem.W PyProof.Rows
namespace Mine
abbrev Keeps (h h' : Heap) : Prop := ∀ b o, h.get? b = some o → h'.get? b = some o
theorem Keeps.refl (h : Heap) : Keeps h h := fun _ _ e => e
theorem Keeps.trans {a b c : Heap} (x : Keeps a b) (y : Keeps b c) : Keeps a c := fun p o e => y p o (x p o e)

/-- the top, as the walk needs it -/
structure Gl (w : World) (h : Heap) : Prop where
  K : (Mine.hd.heap_39 w.params).In h
  nolim : h.NoLimit
  g : ∃ mg, h.Ns mainGlobals mg
  b : ∃ mb, h.Ns builtinsNs mb ∧ ∀ x : Str, x ≠ "__name__" → mb x = bootBuiltins x
theorem Gl.keeps {w : World} {h h' : Heap} (G : Gl w h) (k : Keeps h h') : Gl w h' :=
  ⟨fun a o e => k _ _ (G.K a o e), G.nolim.keeps k, let ⟨mg, x⟩ := G.g; ⟨mg, x.keeps k⟩, let ⟨mb, x, y⟩ := G.b; ⟨mb, x.keeps k, y⟩⟩

section
variable {prog : Program} {w : World} {A : Around} {E : Value → Shared → Prop} {s : Shared} {Q : Value → Shared → Prop}

theorem add_spec (G : Gl w s.heap) (hd : A.depth < recursionLimit) {a b : Int} {t u : Tok} (k : ∀ h' t' tk, Keeps s.heap h' → Q (.int (a + b) tk) { s with heap := h', toks := t' }) :
    wpAny (model prog w) A (call (.ref 200) [.int a t, .int b u]) Q E s := by
  refine wpAny_call (codeAny_call_def hd (G.K 200 _ rfl) rfl G.nolim ⟨199, _, _, _, rfl, G.K 199 _ rfl, rfl, rfl⟩ rfl (binds := [("a", .int a t), ("b", .int b u)]) (BindsTo.of_eq rfl) (by decide) (locs rfl) fun h₀ hns hk => ?_)
  have F : Fr s.heap s.heap.objs.size h₀ _ := ⟨hns, hk, Nat.le_refl _⟩
  trace_state
  refine wpAny_execs_cons (wpAny_Return_some (wpAny_BinOp (ld F rfl (ld F rfl (PyProof.Rows.add_int ?_)))))
  exact k _ _ _ hk
end
end Mine
end

section
set_option maxRecDepth 100000
set_option Elab.async false
open PySem PySem.Sre PySem.Calls PySem.W PyProof.Rows
namespace Mine
abbrev Cells := List (Addr × (Obj → Prop))
abbrev Loc := Str → Option Value
def upd (m : Loc) (x : Str) (v : Value) : Loc := fun y => if y = x then some v else m y
theorem upd_same (m : Loc) (x : Str) (v : Value) : upd m x v x = some v := if_pos rfl
theorem upd_ne {m : Loc} {x y : Str} {v : Value} {r : Option Value} (h : y ≠ x) (e : m y = r) : upd m x v y = r := (if_neg h).trans e

/-- the frame at hand, and the objects of the call's own, no two at one place -/
structure Own (h₀ : Heap) (L : Addr) (m : Loc) (cs : Cells) (h : Heap) : Prop where
  fr : Fr h₀ L h m
  own : ∀ p ∈ cs, (∃ o, h.get? p.1 = some o ∧ p.2 o) ∧ p.1 ≠ L ∧ h₀.get? p.1 = none
  nd : (cs.map (·.1)).Nodup
theorem Own.keep {h₀ h : Heap} {L : Addr} {m : Loc} {cs : Cells} (O : Own h₀ L m cs h) : Keeps h₀ h := O.fr.keep
theorem Own.start {h₀ h : Heap} {L : Addr} {m : Loc} (F : Fr h₀ L h m) : Own h₀ L m [] h := ⟨F, fun _ h => (nomatch h), .nil⟩
theorem Own.get {h₀ h : Heap} {L : Addr} {m : Loc} {cs : Cells} (O : Own h₀ L m cs h) (i : Nat) {a : Addr} {P : Obj → Prop} (e : cs[i]? = some (a, P)) : ∃ o, h.get? a = some o ∧ P o := (O.own _ (List.mem_of_getElem? e)).1
theorem Own.keeps {h₀ h h' : Heap} {L : Addr} {m : Loc} {cs : Cells} (O : Own h₀ L m cs h) (k : Keeps h h') : Own h₀ L m cs h' :=
  ⟨⟨O.fr.ns.keeps k, Keeps.trans O.fr.keep k, O.fr.above⟩, fun p hp => ⟨let ⟨o, e, q⟩ := (O.own p hp).1; ⟨o, k _ _ e, q⟩, (O.own p hp).2⟩, O.nd⟩
theorem Own.push {h₀ h : Heap} {L : Addr} {m : Loc} {cs : Cells} (O : Own h₀ L m cs h) (o : Obj) {P : Obj → Prop} (hp : P o) (hf : o.isFreed = false := by rfl) : Own h₀ L m ((h.objs.size, P) :: cs) (h.push o) := by
  have O' := O.keeps (h' := h.push o) fun b x e => Heap.get?_push_of_some _ e
  have hl : L < h.objs.size := O.fr.ns.lt
  have new : h₀.get? h.objs.size = none := by
    cases q : h₀.get? h.objs.size with
    | none => rfl
    | some o => exact absurd (Heap.lt_size (O.fr.keep _ _ q)) (Nat.lt_irrefl _)
  refine ⟨O'.fr, fun p hp' => ?_, ?_⟩
  · cases hp' with
    | head => exact ⟨⟨o, Heap.get?_push_size _ hf, hp⟩, Nat.ne_of_gt hl, new⟩
    | tail _ hp' => exact O'.own p hp'
  · rw [List.map_cons, List.nodup_cons]
    refine ⟨fun hm => ?_, O.nd⟩
    obtain ⟨p, hp1, hp2⟩ := List.mem_map.mp hm
    obtain ⟨o', e, _⟩ := (O.own p hp1).1
    have := Heap.lt_size e
    rw [hp2] at this
    exact Nat.lt_irrefl _ this
theorem Own.drop {h₀ h : Heap} {L : Addr} {m : Loc} {c : Addr × (Obj → Prop)} {cs : Cells} (O : Own h₀ L m (c :: cs) h) : Own h₀ L m cs h :=
  ⟨O.fr, fun p hp => O.own p (.tail _ hp), (List.nodup_cons.mp O.nd).2⟩
theorem Own.sub {h₀ h : Heap} {L : Addr} {m : Loc} {cs cs' : Cells} (O : Own h₀ L m cs h) (s : cs'.Sublist cs) : Own h₀ L m cs' h :=
  ⟨O.fr, fun p hp => O.own p (s.subset hp), (s.map _).nodup O.nd⟩
theorem Own.perm {h₀ h : Heap} {L : Addr} {m : Loc} {cs cs' : Cells} (O : Own h₀ L m cs h) (s : cs'.Perm cs) : Own h₀ L m cs' h :=
  ⟨O.fr, fun p hp => O.own p (s.subset hp), (s.map _).nodup_iff.mpr O.nd⟩
theorem Own.swap {h₀ h : Heap} {L : Addr} {m : Loc} {a b : Addr × (Obj → Prop)} {cs : Cells} (O : Own h₀ L m (a :: b :: cs) h) : Own h₀ L m (b :: a :: cs) h := O.perm (.swap ..)
/-- the head's object is changed -/
theorem Own.set {h₀ h h' : Heap} {L : Addr} {m : Loc} {a : Addr} {P P' : Obj → Prop} {cs : Cells} (O : Own h₀ L m ((a, P) :: cs) h) (hs : Heap.SameBut a h h') (hp : ∃ o, h'.get? a = some o ∧ P' o) : Own h₀ L m ((a, P') :: cs) h' := by
  obtain ⟨_, n1, n2⟩ := O.own _ (.head _)
  have nd := List.nodup_cons.mp O.nd
  refine ⟨O.fr.change hs n1 n2, fun p hp' => ?_, ?_⟩
  · cases hp' with
    | head => exact ⟨hp, n1, n2⟩
    | tail _ hp' =>
      obtain ⟨⟨o, e, q⟩, r⟩ := O.own p (.tail _ hp')
      have : p.1 ≠ a := fun z => nd.1 (by have := List.mem_map_of_mem (f := (·.1)) hp'; rw [z] at this; exact this)
      exact ⟨⟨o, (hs.2 _ this).trans e, q⟩, r⟩
  · exact O.nd
theorem Own.setLoc {h₀ h h' : Heap} {L : Addr} {m m' : Loc} {cs : Cells} (O : Own h₀ L m cs h) (hn : h'.Ns L m') (hs : Heap.SameBut L h h') : Own h₀ L m' cs h' :=
  ⟨O.fr.set hn hs, fun p hp => ⟨let ⟨o, e, q⟩ := (O.own p hp).1; ⟨o, (hs.2 _ (O.own p hp).2.1).trans e, q⟩, (O.own p hp).2⟩, O.nd⟩

/-- the head's object is let go -/
theorem Own.ext {h₀ h h' : Heap} {L : Addr} {m : Loc} {a : Addr} {P : Obj → Prop} {cs : Cells} (O : Own h₀ L m ((a, P) :: cs) h) (hs : Heap.ExtBut a h h') : Own h₀ L m cs h' := by
  obtain ⟨_, n1, n2⟩ := O.own _ (.head _)
  have nd := List.nodup_cons.mp O.nd
  refine ⟨⟨O.fr.ns.extBut hs (Ne.symm n1), fun b o e => ?_, O.fr.above⟩, fun p hp' => ?_, nd.2⟩
  · refine hs b o (fun z => ?_) (O.fr.keep b o e)
    rw [z, n2] at e; cases e
  · obtain ⟨⟨o, e, q⟩, r⟩ := O.own p (.tail _ hp')
    have : p.1 ≠ a := fun z => nd.1 (by have := List.mem_map_of_mem (f := (·.1)) hp'; rw [z] at this; exact this)
    exact ⟨⟨o, hs _ _ this e, q⟩, r⟩
/-- an object of the base is taken into hand -/
theorem Own.hide {h₀ h : Heap} {L : Addr} {m : Loc} {cs : Cells} {a : Addr} {P : Obj → Prop} {o : Obj} (O : Own h₀ L m cs h) (e : h₀.get? a = some o) (hp : P o) : Own (h₀.hide a) L m ((a, P) :: cs) h := by
  have no : ∀ p ∈ cs, p.1 ≠ a := fun p hp' z => by have := (O.own p hp').2.2; rw [z, e] at this; cases this
  refine ⟨⟨O.fr.ns, fun b x q => O.fr.keep b x (Heap.of_hide q), by rw [Heap.hide_size]; exact O.fr.above⟩, fun p hp' => ?_, ?_⟩
  · cases hp' with
    | head => exact ⟨⟨o, O.fr.keep _ _ e, hp⟩, Nat.ne_of_lt (Nat.lt_of_lt_of_le (Heap.lt_size e) O.fr.above), Heap.hide_self _ _⟩
    | tail _ hp' => exact ⟨(O.own p hp').1, (O.own p hp').2.1, (Heap.hide_ne _ (no p hp')).trans (O.own p hp').2.2⟩
  · rw [List.map_cons, List.nodup_cons]
    refine ⟨fun hm => ?_, O.nd⟩
    obtain ⟨p, h1, h2⟩ := List.mem_map.mp hm
    exact no p h1 h2
theorem Own.front {h₀ h : Heap} {L : Addr} {m : Loc} {pre post : Cells} {a : Addr × (Obj → Prop)} (O : Own h₀ L m (pre ++ a :: post) h) : Own h₀ L m (a :: (pre ++ post)) h := O.perm (List.perm_middle (l₁ := pre)).symm
theorem Own.hideKeeps {h₀ h : Heap} {L : Addr} {m : Loc} {cs : Cells} {a : Addr} {P : Obj → Prop} (O : Own h₀ L m ((a, P) :: cs) h) : Keeps h₀ (h.hide a) := fun b o e => by
  have n : b ≠ a := fun z => by rw [z, (O.own _ (.head _)).2.2] at e; cases e
  exact (Heap.hide_ne h n).trans (O.keep b o e)
theorem unhide (h : Heap) (a : Addr) : Keeps (h.hide a) h := fun _ _ e => Heap.of_hide e
theorem ext_of_hide {h h' : Heap} {a : Addr} (k : Keeps (h.hide a) h') : Heap.ExtBut a h h' := fun b o n e => k b o ((Heap.hide_ne h n).trans e)

/-- room for n calls more -/
structure Ok (A : Around) (n : Nat) : Prop where
  hd : A.handled = none
  depth : A.depth + n < recursionLimit
  units : A.units + 4 * n + 8 < cLine
theorem Ok.room {A : Around} {n : Nat} (k : Ok A n) : A.depth < recursionLimit := by have := k.depth; omega
theorem Ok.unit {A : Around} {n : Nat} (k : Ok A n) : A.units < cLine := by have := k.units; omega
theorem Ok.deeper {A : Around} {n : Nat} (k : Ok A (n + 1)) (env : Env) : Ok (A.deeper env) n := by
  refine ⟨k.hd, ?_, ?_⟩
  · have := k.depth; show A.depth + 1 + n < _; omega
  · have := k.units; show A.units + 3 + 4 * n + 8 < _; omega
theorem Ok.under {A : Around} {n : Nat} (k : Ok A (n + 1)) {c : Code} (hw : c.weight = 0) (hu : c.cUnits ≤ 4) : Ok (A.under c) n := by
  refine ⟨k.hd, ?_, ?_⟩
  · have := k.depth; show A.depth + c.weight + n < _; omega
  · have := k.units; show A.units + c.cUnits + 4 * n + 8 < _; omega
theorem Ok.le {A : Around} {n k : Nat} (x : Ok A n) (h : k ≤ n) : Ok A k := ⟨x.hd, by have := x.depth; omega, by have := x.units; omega⟩

section
variable {prog : Program} {w : World} {A : Around} {s : Shared} {M : Model} {env : Env} {E : Value → Shared → Prop}

theorem call_fnc {f cd : Addr} {o oc : Obj} {fd : FuncData} {body : List Stmt} {vs : Array Value} {tk : Tok} {args : Args} {binds : List (Str × Value)} {R : Result → Shared → Prop} {n : Nat}
    (G : Gl w s.heap) (ok : Ok A (n + 1)) (hf : (Mine.hd.heap_39 w.params).lookup f = some o) (hdata : o.data = .func fd) (hc : (Mine.hd.heap_39 w.params).lookup cd = some oc) (hcd : fd.code = .ref cd) (hoc : oc.data = .fields vs)
    (hq : vs[1]? = some (.str fd.qualname tk)) (hbody : fd.body = .stmts body) (hbind : BindsTo s fd args binds)
    (hcell : ∀ x ∈ fd.scope.names, x.2 ≠ .cell) (hloc : (binds.all fun x => decide (fd.scope.names.lookup x.1 = some .local)) = true)
    (hco : fd.scope.isCoroutine = false) (hgen : fd.scope.isGenerator = false) (hk : fd.scope.kind = .function)
    (h : ∀ h₁ t₁, Ok (A.deeper (callEnv fd s.heap.objs.size f)) n → Own s.heap s.heap.objs.size (fun x => binds.reverse.lookup x) [] h₁ → wpAny (model prog w) (A.deeper (callEnv fd s.heap.objs.size f)) (execs body (callEnv fd s.heap.objs.size f))
      (fun fl s' => R (.ok (.ret (match fl with | .ret v => v | _ => .none))) s') (fun _ _ => False) { s with heap := h₁, toks := t₁ }) :
    codeAny (model prog w) A (.call (.ref f) args) R s := by
  refine codeAny_call_def (args := args) ok.room (G.K f _ hf) hdata G.nolim ⟨cd, oc, vs, tk, hcd, G.K cd _ hc, hoc, hq⟩ hbody hbind hcell (locs hloc) (fun h₀ hns hk => ?_) hco hgen hk
  exact wpAny_mono (h h₀ _ (ok.deeper _) (.start ⟨hns, hk, Nat.le_refl _⟩)) (fun fl s' q => q) fun _ _ x => x.elim
theorem call_fn {f cd : Addr} {o oc : Obj} {fd : FuncData} {body : List Stmt} {vs : Array Value} {tk : Tok} {args : Args} {binds : List (Str × Value)} {Q : Value → Shared → Prop} {n : Nat}
    (G : Gl w s.heap) (ok : Ok A (n + 1)) (hf : (Mine.hd.heap_39 w.params).lookup f = some o) (hdata : o.data = .func fd) (hc : (Mine.hd.heap_39 w.params).lookup cd = some oc) (hcd : fd.code = .ref cd) (hoc : oc.data = .fields vs)
    (hq : vs[1]? = some (.str fd.qualname tk)) (hbody : fd.body = .stmts body) (hbind : BindsTo s fd args binds)
    (hcell : ∀ x ∈ fd.scope.names, x.2 ≠ .cell) (hloc : (binds.all fun x => decide (fd.scope.names.lookup x.1 = some .local)) = true)
    (hco : fd.scope.isCoroutine = false) (hgen : fd.scope.isGenerator = false) (hk : fd.scope.kind = .function)
    (h : ∀ h₁ t₁, Ok (A.deeper (callEnv fd s.heap.objs.size f)) n → Own s.heap s.heap.objs.size (fun x => binds.reverse.lookup x) [] h₁ → wpAny (model prog w) (A.deeper (callEnv fd s.heap.objs.size f)) (execs body (callEnv fd s.heap.objs.size f))
      (fun fl s' => Q (match fl with | .ret v => v | _ => .none) s') (fun _ _ => False) { s with heap := h₁, toks := t₁ }) :
    wpAny (model prog w) A (call (.ref f) args.pos args.kw) Q E s := by
  refine wpAny_call (codeAny_call_def (args := args) ok.room (G.K f _ hf) hdata G.nolim ⟨cd, oc, vs, tk, hcd, G.K cd _ hc, hoc, hq⟩ hbody hbind hcell (locs hloc) (fun h₀ hns hk => ?_) hco hgen hk)
  exact wpAny_mono (h h₀ _ (ok.deeper _) (.start ⟨hns, hk, Nat.le_refl _⟩)) (fun fl s' q => q) fun _ _ x => x.elim

theorem call_kw {f cd : Addr} {o oc : Obj} {fd : FuncData} {body : List Stmt} {vs : Array Value} {tk : Tok} {args : Args} {binds : Addr → List (Str × Value)} {Q : Value → Shared → Prop} {n : Nat}
    (G : Gl w s.heap) (ok : Ok A (n + 1)) (hf : (Mine.hd.heap_39 w.params).lookup f = some o) (hdata : o.data = .func fd) (hc : (Mine.hd.heap_39 w.params).lookup cd = some oc) (hcd : fd.code = .ref cd) (hoc : oc.data = .fields vs)
    (hq : vs[1]? = some (.str fd.qualname tk)) (hbody : fd.body = .stmts body) (hbind : bindArgs fd args = (alloc { cls := .type "dict", data := .dict #[] } >>= fun d => pure (binds d)))
    (hcell : ∀ x ∈ fd.scope.names, x.2 ≠ .cell) (hloc : ∀ d, ((binds d).all fun x => decide (fd.scope.names.lookup x.1 = some .local)) = true)
    (hco : fd.scope.isCoroutine = false) (hgen : fd.scope.isGenerator = false) (hk : fd.scope.kind = .function)
    (h : ∀ h₁ t₁ d L, s.heap.objs.size ≤ d → Ok (A.deeper (callEnv fd L f)) n → Own s.heap L (fun x => (binds d).reverse.lookup x) [(d, fun o => o = { cls := .type "dict", data := .dict #[] })] h₁ → wpAny (model prog w) (A.deeper (callEnv fd L f)) (execs body (callEnv fd L f))
      (fun fl s' => Q (match fl with | .ret v => v | _ => .none) s') (fun _ _ => False) { s with heap := h₁, toks := t₁ }) :
    wpAny (model prog w) A (call (.ref f) args.pos args.kw) Q E s := by
  refine wpAny_call (codeAny_call_function (args := args) ok.room (G.K f _ hf) hdata hco hgen hbody ⟨cd, oc, vs, tk, hcd, G.K cd _ hc, hoc, hq⟩ ?_)
  rw [hbind]
  refine wpAny_bind (wpAny_alloc (wpAny_pure ?_))
  refine wpAny_newFunctionEnv hcell (locs (hloc _)) (fun h₀ hns₀ hsb₀ => ⟨(G.nolim.push _).fresh _ hsb₀, codeAny_func ?_⟩) hk
  have hk1 : Keeps s.heap (s.heap.push { cls := .type "dict", data := .dict #[] }) := fun b o e => Heap.get?_push_of_some _ e
  have hk2 : Keeps (s.heap.push { cls := .type "dict", data := .dict #[] }) h₀ := fun b o e => hsb₀.extBut b o (Nat.ne_of_lt (Heap.lt_size e)) (Heap.get?_push_of_some _ e)
  have F : Fr s.heap (s.heap.push { cls := .type "dict", data := .dict #[] }).objs.size h₀ (fun x => (binds s.heap.objs.size).reverse.lookup x) := ⟨hns₀, hk1.trans hk2, by rw [Heap.size_push]; omega⟩
  have hd : (s.heap.push { cls := .type "dict", data := .dict #[] }).get? s.heap.objs.size = some { cls := .type "dict", data := .dict #[] } := Heap.get?_push_size _ rfl
  have O : Own s.heap (s.heap.push { cls := .type "dict", data := .dict #[] }).objs.size (fun x => (binds s.heap.objs.size).reverse.lookup x) [(s.heap.objs.size, fun o => o = { cls := .type "dict", data := .dict #[] })] h₀ := by
    refine ⟨F, fun p hp => ?_, by simp⟩
    rw [List.mem_singleton] at hp; subst hp
    refine ⟨⟨_, hk2 _ _ hd, rfl⟩, by rw [Heap.size_push]; exact Nat.ne_of_lt (Nat.lt_succ_self _), ?_⟩
    cases q : s.heap.get? s.heap.objs.size with
    | none => rfl
    | some o => exact absurd (Heap.lt_size q) (Nat.lt_irrefl _)
  exact wpAny_mono (h h₀ _ _ _ (Nat.le_refl _) (ok.deeper _) O) (fun fl s' q => q) fun _ _ x => x.elim

-- names
theorem nm_loc {h₀ : Heap} {L : Addr} {m : Loc} {cs : Cells} {x : Str} {pos : Pos} {v : Value} {Q : Value → Shared → Prop} (O : Own h₀ L m cs s.heap) (hv : m x = some v) (h : Q v s)
    (hL : env.locals = L := by rfl) (hk : env.scope.kind = .function := by rfl) (hl : env.kindOf x = some .local := by rfl) (hd : (x == ("__debug__" : Str)) = false := by decide) :
    wpAny M A (eval (.Name x pos) env) Q E s := wpAny_Name (wpAny_loadName_local hk hl (hL ▸ O.fr.ns) hv h) hd
theorem ldn_loc {h₀ : Heap} {L : Addr} {m : Loc} {cs : Cells} {x : Str} {v : Value} {Q : Value → Shared → Prop} (O : Own h₀ L m cs s.heap) (hv : m x = some v) (h : Q v s)
    (hL : env.locals = L := by rfl) (hk : env.scope.kind = .function := by rfl) (hl : env.kindOf x = some .local := by rfl) :
    wpAny M A (loadName env x) Q E s := wpAny_loadName_local hk hl (hL ▸ O.fr.ns) hv h
theorem nm_glob {h₀ : Heap} {L : Addr} {m : Loc} {cs : Cells} {x : Str} {pos : Pos} {v : Value} {Q : Value → Shared → Prop} (G : Gl w h₀) (O : Own h₀ L m cs s.heap) (e : nsIn (Mine.hd.heap_39 w.params) mainGlobals x = some (some v)) (h : Q v s)
    (hg : env.globals = mainGlobals := by rfl) (hk : env.scope.kind = .function := by rfl) (hx : env.kindOf x = some .globalImplicit := by rfl) (hd : (x == ("__debug__" : Str)) = false := by decide) :
    wpAny M A (eval (.Name x pos) env) Q E s := by
  obtain ⟨mg, Gm⟩ := (G.keeps O.keep).g
  exact Calls.Name_function_global hk hx (Calls.loadGlobal_global (hg ▸ Gm) (mg_of (G.keeps O.keep).K Gm e) h) hd
theorem nm_blt {h₀ : Heap} {L : Addr} {m : Loc} {cs : Cells} {x : Str} {pos : Pos} {v : Value} {Q : Value → Shared → Prop} (G : Gl w h₀) (O : Own h₀ L m cs s.heap) (e : nsIn (Mine.hd.heap_39 w.params) mainGlobals x = some none) (hv : bootBuiltins x = some v) (h : Q v s)
    (hg : env.globals = mainGlobals := by rfl) (hb : env.builtins = builtinsNs := by rfl) (hk : env.scope.kind = .function := by rfl) (hx : env.kindOf x = some .globalImplicit := by rfl) (hd : (x == ("__debug__" : Str)) = false := by decide)
    (hn : x ≠ "__name__" := by decide) : wpAny M A (eval (.Name x pos) env) Q E s := by
  obtain ⟨mg, Gm⟩ := (G.keeps O.keep).g
  obtain ⟨mb, Bm, hmb⟩ := (G.keeps O.keep).b
  exact Calls.Name_function_global hk hx (Calls.loadGlobal_builtin (hg ▸ Gm) (mg_none_of (G.keeps O.keep).K Gm e) (hb ▸ Bm) ((hmb x hn).trans hv) h) hd
theorem st_loc {h₀ : Heap} {L : Addr} {m : Loc} {cs : Cells} {x : Str} {v : Value} {Q : Unit → Shared → Prop} (O : Own h₀ L m cs s.heap)
    (h : ∀ h' t', Own h₀ L (upd m x v) cs h' → Q () { s with heap := h', toks := t' })
    (hL : env.locals = L := by rfl) (hk : env.scope.kind = .function := by rfl) (hl : env.kindOf x = some .local := by rfl) : wpAny M A (storeName env x v) Q E s := by
  subst hL
  refine wpAny_storeName_local hl O.fr.ns (fun h' hn hs => h h' _ (O.setLoc hn hs)) ?_
  show (env.scope.kind == .class || (env.scope.kind == .module && env.locals != env.globals)) = false
  rw [hk]; rfl

-- calls
theorem evalArgs_any {f : Value} {l : List (Bool × Sem Value)} {Q : Args → Shared → Prop} (hl : l.any (·.1) = false) (h : wpAny M A (spliced l) (fun vs s' => Q ⟨vs, []⟩ s') E s) : wpAny M A (evalArgs f true l []) Q E s := by
  cases l with
  | nil =>
    unfold evalArgs
    show wpAny M A (spliced [] >>= _) Q E s
    refine wpAny_bind (wpAny_mono h (fun vs s' q => ?_) fun _ _ x => x)
    refine wpAny_bind (wpAny_pure ?_)
    refine wpAny_holding ?_
    exact wpAny_bind (wpAny_pure (wpAny_bind (wpAny_pure (wpAny_pure q))))
  | cons p r =>
    obtain ⟨b, x⟩ := p
    cases b with
    | true => simp at hl
    | false => exact Calls.evalArgs_plain h
theorem cw_blt {pos : Pos} {id : String} {first : List Value} {l : List (Bool × Sem Value)} {Q : Value → Shared → Prop} (h : wpAny M A (spliced l) (fun vs s₁ => wpAny M A (call (.builtin id) (first ++ vs)) Q E s₁) E s)
    (hl : l.any (·.1) = false := by rfl) : wpAny M A (callWith pos (.builtin id) first l []) Q E s :=
  Calls.callWith_builtin hl (evalArgs_any hl h)
theorem cw_fn {pos : Pos} {f : Addr} {first : List Value} {l : List (Bool × Sem Value)} {Q : Value → Shared → Prop} (h : wpAny M A (spliced l) (fun vs s₁ => (∃ o fd, s₁.heap.get? f = some o ∧ o.data = .func fd) ∧ wpAny M A (call (.ref f) (first ++ vs)) Q E s₁) E s)
    (hl : l.any (·.1) = false := by rfl) : wpAny M A (callWith pos (.ref f) first l []) Q E s := by
  unfold callWith
  refine wpAny_bind (wpAny_holding (wpAny_mono (evalArgs_any (Q := fun x s₁ => (∃ o fd, s₁.heap.get? f = some o ∧ o.data = .func fd) ∧ wpAny M A (call (.ref f) (first ++ x.pos) x.kw) Q E s₁) hl h) (fun x s₁ h₁ => wpAny_bind (wpAny_standAt ?_)) fun _ _ x => x))
  obtain ⟨⟨o, fd, ho, hd⟩, h₁⟩ := h₁
  have tail : ∀ {t : Sem Value}, wpAny M A t Q E s₁ → wpAny M A (t >>= fun r => holding [r] point >>= fun _ => pure r) Q E s₁ :=
    fun ht => wpAny_bind (wpAny_mono ht (fun r s₂ hr => wpAny_bind (wpAny_holding (wpAny_point (wpAny_pure hr)))) fun _ _ x => x)
  refine wpAny_bind (m := keeperOf (.ref f)) ?_
  unfold keeperOf
  refine wpAny_bind (wpAny_load ho ?_)
  rw [hd]
  refine wpAny_pure ?_
  rw [hl]
  show wpAny M A (if l.length + 2 * ([] : List (Option Str × Sem Value)).length > 30 then _ else _) Q E s₁
  split
  · exact tail h₁
  · exact tail (by unfold callMarked; exact Calls.wpAny_keep h₁)
theorem meth_call {o : Expr} {name : Str} {apos pos : Pos} {args : List Expr} {pl : Sem Bool} {Q : Value → Shared → Prop}
    (h : wpAny M A (eval o env) (fun ov s₁ => wpAny M A (getMethod ov name pl) (fun fa s₂ => wpAny M A (callWith pos fa.1 fa.2 (backTo pos (starEach args env)) []) Q E s₂) E s₁) E s)
    (hb : attributeBase o name env (eval o env) = eval o env := by rfl) (hf : methodCallForm (args.length + 0) (backTo pos (starEach args env)) [] = true := by rfl) (hp : methodCallPos true o env apos pos = pure pos := by rfl)
    (hpl : ∀ ov, calleeOf true o env ov name = getMethod ov name pl := by intro _; rfl) :
    wpAny M A (eval (.Call (.Attribute o name apos) args [] pos) env) Q E s := by
  rw [arm_eval_Call, hb]
  refine wpAny_bind (wpAny_mono h (fun ov s₁ h₁ => wpAny_bind (wpAny_standAt ?_)) fun _ _ x => x)
  show wpAny M A (methodCall o name apos pos env ov (args.length + 0) (backTo pos (starEach args env)) []) Q E s₁
  unfold methodCall
  rw [hf, hpl]
  refine wpAny_bind (wpAny_holding (wpAny_mono h₁ (fun fa s₂ h₂ => ?_) fun _ _ x => x))
  rw [hp]
  exact wpAny_bind (wpAny_pure h₂)
theorem name_call {x : Str} {p pos : Pos} {args : List Expr} {Q : Value → Shared → Prop}
    (h : wpAny M A (eval (.Name x p) env) (fun f s₁ => wpAny M A (callWith pos f [] (backTo pos (starEach args env)) []) Q E s₁) E s) : wpAny M A (eval (.Call (.Name x p) args [] pos) env) Q E s := wpAny_Call_Name_kw h
end
section
variable {prog : Program} {w : World} {A : Around} {s : Shared} {E : Value → Shared → Prop} {Q : Value → Shared → Prop} {n : Nat}
-- the small defs
theorem add_spec' (G : Gl w s.heap) (ok : Ok A (n + 1)) {a b : Int} {t u : Tok} (k : ∀ h' t' tk, Keeps s.heap h' → Q (.int (a + b) tk) { s with heap := h', toks := t' }) :
    wpAny (model prog w) A (call (.ref 200) [.int a t, .int b u]) Q E s := by
  refine call_fn (args := ⟨[.int a t, .int b u], []⟩) (binds := [("a", .int a t), ("b", .int b u)]) G ok rfl rfl rfl rfl rfl rfl rfl (.of_eq rfl) (by decide) rfl rfl rfl rfl fun h₁ t₁ ok' O => ?_
  refine wpAny_execs_cons (wpAny_Return_some (wpAny_BinOp (nm_loc O rfl (nm_loc O rfl (PyProof.Rows.add_int ?_)))))
  exact k _ _ _ O.keep
theorem mul_spec (G : Gl w s.heap) (ok : Ok A (n + 1)) {a b : Int} {t u : Tok} (hm : IntMulOk a b) (k : ∀ h' t' tk, Keeps s.heap h' → Q (.int (a * b) tk) { s with heap := h', toks := t' }) :
    wpAny (model prog w) A (call (.ref 221) [.int a t, .int b u]) Q E s := by
  refine call_fn (args := ⟨[.int a t, .int b u], []⟩) (binds := [("a", .int a t), ("b", .int b u)]) G ok rfl rfl rfl rfl rfl rfl rfl (.of_eq rfl) (by decide) rfl rfl rfl rfl fun h₁ t₁ ok' O => ?_
  refine wpAny_execs_cons (wpAny_Return_some (wpAny_BinOp (nm_loc O rfl (nm_loc O rfl (PyProof.Rows.mul_int ?_ hm)))))
  exact k _ _ _ O.keep
theorem and_spec (G : Gl w s.heap) (ok : Ok A (n + 1)) {a b : Int} {t u : Tok} (k : ∀ h' t' tk, Keeps s.heap h' → Q (.int (Builtin.bitAnd a b) tk) { s with heap := h', toks := t' }) :
    wpAny (model prog w) A (call (.ref 207) [.int a t, .int b u]) Q E s := by
  refine call_fn (args := ⟨[.int a t, .int b u], []⟩) (binds := [("a", .int a t), ("b", .int b u)]) G ok rfl rfl rfl rfl rfl rfl rfl (.of_eq rfl) (by decide) rfl rfl rfl rfl fun h₁ t₁ ok' O => ?_
  refine wpAny_execs_cons (wpAny_Return_some (wpAny_BinOp (nm_loc O rfl (nm_loc O rfl (PyProof.Rows.and_int ?_)))))
  exact k _ _ _ O.keep
theorem or_spec (G : Gl w s.heap) (ok : Ok A (n + 1)) {a b : Int} {t u : Tok} (k : ∀ h' t' tk, Keeps s.heap h' → Q (.int (Builtin.bitOr a b) tk) { s with heap := h', toks := t' }) :
    wpAny (model prog w) A (call (.ref 235) [.int a t, .int b u]) Q E s := by
  refine call_fn (args := ⟨[.int a t, .int b u], []⟩) (binds := [("a", .int a t), ("b", .int b u)]) G ok rfl rfl rfl rfl rfl rfl rfl (.of_eq rfl) (by decide) rfl rfl rfl rfl fun h₁ t₁ ok' O => ?_
  refine wpAny_execs_cons (wpAny_Return_some (wpAny_BinOp (nm_loc O rfl (nm_loc O rfl (PyProof.Rows.or_int ?_)))))
  exact k _ _ _ O.keep
theorem neg_spec (G : Gl w s.heap) (ok : Ok A (n + 1)) {a : Int} {t : Tok} (k : ∀ h' t' tk, Keeps s.heap h' → Q (.int (-a) tk) { s with heap := h', toks := t' }) :
    wpAny (model prog w) A (call (.ref 228) [.int a t]) Q E s := by
  refine call_fn (args := ⟨[.int a t], []⟩) (binds := [("a", .int a t)]) G ok rfl rfl rfl rfl rfl rfl rfl (.of_eq rfl) (by decide) rfl rfl rfl rfl fun h₁ t₁ ok' O => ?_
  refine wpAny_execs_cons (wpAny_Return_some (wpAny_UnaryOp (nm_loc O rfl (PyProof.Rows.neg_int ?_))))
  exact k _ _ _ O.keep
theorem lshift_spec (G : Gl w s.heap) (ok : Ok A (n + 1)) {a b : Int} {t u : Tok} (h0 : 0 ≤ b) (h1 : b ≤ 1000000) (ha : a.natAbs < 2 ^ 64) (k : ∀ h' t' tk, Keeps s.heap h' → Q (.int (a * 2 ^ b.toNat) tk) { s with heap := h', toks := t' }) :
    wpAny (model prog w) A (call (.ref 214) [.int a t, .int b u]) Q E s := by
  refine call_fn (args := ⟨[.int a t, .int b u], []⟩) (binds := [("a", .int a t), ("b", .int b u)]) G ok rfl rfl rfl rfl rfl rfl rfl (.of_eq rfl) (by decide) rfl rfl rfl rfl fun h₁ t₁ ok' O => ?_
  refine wpAny_execs_cons (wpAny_Return_some (wpAny_BinOp (nm_loc O rfl (nm_loc O rfl (PyProof.Rows.lshift_int_small h0 h1 ha ?_)))))
  exact k _ _ _ O.keep
theorem strcoll_spec (G : Gl w s.heap) (ok : Ok A (n + 1)) {a b : Str} {t u : Tok}
    (k : ∀ h' t' tk, Keeps s.heap h' → Q (.int ((if b.cps.toList < a.cps.toList then 1 else 0) - (if a.cps.toList < b.cps.toList then 1 else 0)) tk) { s with heap := h', toks := t' }) :
    wpAny (model prog w) A (call (.ref 193) [.str a t, .str b u]) Q E s := by
  refine call_fn (args := ⟨[.str a t, .str b u], []⟩) (binds := [("a", .str a t), ("b", .str b u)]) G ok rfl rfl rfl rfl rfl rfl rfl (.of_eq rfl) (by decide) rfl rfl rfl rfl fun h₁ t₁ ok' O => ?_
  refine wpAny_execs_cons (wpAny_Return_some (wpAny_BinOp (wpAny_Compare1 (nm_loc O rfl (nm_loc O rfl (PySem.P.gt_str (wpAny_Compare1 (nm_loc O rfl (nm_loc O rfl (lt_str (PyProof.Rows.sub_bool ?_)))))))))))
  have := k h₁ (t₁ + 1) t₁ O.keep
  simpa [b2i] using this
end
end Mine
end

section
set_option maxRecDepth 100000
set_option Elab.async false
open PySem PySem.Sre PySem.Calls PySem.W PyProof.Rows
namespace Mine
theorem plainAttrs_pat : PlainAttrs "re.Pattern" := ⟨⟨"object.__getattribute__", by rw [typeLookup_type, builtinLookup_eq_fast]; kernel_rfl, by decide +kernel⟩, by rw [typeLookup_type, builtinLookup_eq_fast]; kernel_rfl⟩
theorem type_sub : typeOf (.builtin "re.Pattern.sub") = pure (.type "method_descriptor") := by show builtinType _ = _; rw [builtinType_eq_fast]; kernel_rfl
theorem type_search : typeOf (.builtin "re.Pattern.search") = pure (.type "method_descriptor") := by show builtinType _ = _; rw [builtinType_eq_fast]; kernel_rfl
section
variable {prog : Program} {w : World} {A : Around} {s : Shared} {E : Value → Shared → Prop} {M : Model}
theorem IsPat.gm_sub {pat : Addr} {code : Array Nat} {pl : Sem Bool} {Q : Value × List Value → Shared → Prop} (p : IsPat s.heap pat code) (h : Q (.builtin "re.Pattern.sub", [.ref pat]) s) : wpAny M A (getMethod (.ref pat) "sub" pl) Q E s := by
  obtain ⟨p0, p1, tup, items, n, h1, _⟩ := p.it
  exact getMethod_builtin ⟨_, h1, rfl⟩ plainAttrs_pat slot_sub type_sub (fun a e => by cases e; exact ⟨_, h1, rfl⟩) h
theorem IsPat.gm_search {pat : Addr} {code : Array Nat} {pl : Sem Bool} {Q : Value × List Value → Shared → Prop} (p : IsPat s.heap pat code) (h : Q (.builtin "re.Pattern.search", [.ref pat]) s) : wpAny M A (getMethod (.ref pat) "search" pl) Q E s := by
  obtain ⟨p0, p1, tup, items, n, h1, _⟩ := p.it
  exact getMethod_builtin ⟨_, h1, rfl⟩ plainAttrs_pat slot_search type_search (fun a e => by cases e; exact ⟨_, h1, rfl⟩) h
theorem pat1 {h : Heap} (G : Gl w h) : IsPat h 240 code1 := ⟨_, _, _, _, _, G.K 240 _ rfl, G.K 239 _ rfl, by decide +kernel⟩
theorem pat2 {h : Heap} (G : Gl w h) : IsPat h 245 code2 := ⟨_, _, _, _, _, G.K 245 _ rfl, G.K 244 _ rfl, by decide +kernel⟩
theorem patN {h : Heap} (G : Gl w h) : IsPat h 48 codeN := ⟨_, _, _, _, _, G.K 48 _ rfl, G.K 47 _ rfl, by decide +kernel⟩
theorem patV {h : Heap} (G : Gl w h) : IsPat h 53 codeV := ⟨_, _, _, _, _, G.K 53 _ rfl, G.K 52 _ rfl, by decide +kernel⟩

theorem fm2 {α β : Type} (f g : α → β) (l : List α) : (l.flatMap fun b => [f b, g b]).length = 2 * l.length := by
  induction l with
  | nil => rfl
  | cons a l ih => simp only [List.flatMap_cons, List.length_append, List.length_cons, List.length_nil, ih]; omega
theorem quote_spec {n : Nat} {Q : Value → Shared → Prop} (G : Gl w s.heap) (ok : Ok A (n + 1)) {e : List Nat} (he : e = [10] ∨ e = [13] ∨ e = [13, 10]) {b : List Nat} {bs : List (List Nat)} (hb : ∀ y ∈ b :: bs, clean y) {t : Tok}
    (hl : bs.length ≤ 1000) (hsz : (lines e ((b :: bs).map (46 :: ·))).length ≤ 2 ^ 20)
    (k : ∀ h' t' tk, Keeps s.heap h' → Q (.str ⟨(lines [13, 10] ((b :: bs).map (46 :: 46 :: ·))).toArray⟩ tk) { s with heap := h', toks := t' }) :
    wpAny (model prog w) A (call (.ref 252) [.str ⟨(lines e ((b :: bs).map (46 :: ·))).toArray⟩ t]) Q E s := by
  refine call_fn (args := ⟨[.str ⟨(lines e ((b :: bs).map (46 :: ·))).toArray⟩ t], []⟩) (binds := [("data", .str ⟨(lines e ((b :: bs).map (46 :: ·))).toArray⟩ t)]) G ok rfl rfl rfl rfl rfl rfl rfl (.of_eq rfl) (by decide) rfl rfl rfl rfl fun h₁ t₁ ok' O => ?_
  refine wpAny_execs_cons (wpAny_Return_some ?_)
  refine meth_call (nm_glob G O rfl ((pat1 (G.keeps O.keep)).gm_sub (cw_blt (wpAny_items_cons (Calls.Constant_str ?_)))))
  refine wpAny_items_cons ?_
  refine meth_call (nm_glob G O rfl ((pat2 (G.keeps O.keep)).gm_sub (cw_blt (wpAny_items_cons (nm_glob G O rfl (wpAny_items_cons (nm_loc O rfl (wpAny_items_nil ?_))))))))
  have hc : ∀ y ∈ (b :: bs).map (46 :: ·), clean y ∧ ∃ b', y = 46 :: b' := by
    intro y hy
    obtain ⟨z, hz, rfl⟩ := List.mem_map.mp hy
    refine ⟨fun c hc => ?_, z, rfl⟩
    cases hc with
    | head => decide
    | tail _ hc => exact hb z hz c hc
  have T2 := subs2 he ((b :: bs).map (46 :: ·)) [] hc
  have e2 := cat2 ((b :: bs).map (46 :: ·))
  have lenL : ∀ (e : List Nat) (l : List (List Nat)), (lines e l).length = (l.map (·.length)).sum + l.length * e.length := by
    intro e l
    induction l with
    | nil => simp [lines]
    | cons a l ih => rw [lines_cons]; simp only [List.length_append, List.map_cons, List.sum_cons, List.length_cons, ih, Nat.succ_mul]; omega
  have hlen : e.length ≤ 2 ∧ 1 ≤ e.length := by rcases he with rfl | rfl | rfl <;> decide
  have hsz2 : (lines [13, 10] ((b :: bs).map (46 :: ·))).length ≤ 2 ^ 20 + 2002 := by
    have h1 := lenL e ((b :: bs).map (46 :: ·))
    have h2 := lenL [13, 10] ((b :: bs).map (46 :: ·))
    have : ((b :: bs).map (46 :: ·)).length ≤ 1001 := by simp; omega
    have h3 : ((b :: bs).map (46 :: ·)).length * [13, 10].length ≤ 2002 := by show _ * 2 ≤ _; omega
    omega
  have hsz3 : (lines [13, 10] ((b :: bs).map fun b => 46 :: 46 :: b)).length ≤ 2 ^ 20 + 5000 := by
    have h1 := lenL [13, 10] ((b :: bs).map (46 :: ·))
    have h2 := lenL [13, 10] ((b :: bs).map fun b => 46 :: 46 :: b)
    have h4 : (((b :: bs).map fun b => 46 :: 46 :: b).map (·.length)).sum = (((b :: bs).map (46 :: ·)).map (·.length)).sum + (b :: bs).length := by
      generalize b :: bs = l
      induction l with
      | nil => rfl
      | cons a l ih => simp only [List.map_cons, List.sum_cons, List.length_cons] at ih ⊢; omega
    have : (b :: bs).length ≤ 1001 := by simp; omega
    simp only [List.length_map] at h1 h2
    omega
  rw [show Str.ofString "\r\n" = crlf from by decide +kernel, show Str.ofString ".." = dd from by decide +kernel]
  refine call_sub (pat2 (G.keeps O.keep)) ?_ (by decide +kernel) T2 ?_ ?_ fun h₂ t₂ u₂ k₂ => ?_
  · show (lines e _).toArray.size ≤ sizeLine
    rw [sizeLine_eq]; simpa using Nat.le_trans hsz (by decide)
  · rw [sizeLine_eq, fm2]; simp only [List.length_map, List.length_cons]; omega
  · rw [e2]; show (lines _ _).toArray.size ≤ sizeLine
    rw [sizeLine_eq]; simp only [List.size_toArray]; omega
  have O2 := O.keeps k₂
  refine wpAny_items_nil ?_
  rw [e2]
  have T1 := subs1 bs b (fun y hy c hc => (hb y hy c hc).1) (by omega)
  have e1 := cat1 (b :: bs)
  refine call_sub (pat1 (G.keeps O2.keep)) ?_ (by decide +kernel) T1 ?_ ?_ fun h₃ t₃ u₃ k₃ => ?_
  · show (lines _ _).toArray.size ≤ sizeLine
    rw [sizeLine_eq]; simp only [List.size_toArray]; omega
  · rw [sizeLine_eq, fm2]; simp only [List.length_map, List.length_cons]; omega
  · rw [e1]; show (lines _ _).toArray.size ≤ sizeLine
    rw [sizeLine_eq]; simp only [List.size_toArray]; omega
  rw [e1]
  exact k _ _ _ (O2.keeps k₃).keep
end
end Mine
end

section
set_option maxRecDepth 100000
set_option Elab.async false
open PySem PySem.Sre PySem.Calls PySem.W PyProof.Rows
namespace Mine
section
variable {prog : Program} {w : World} {A : Around} {s : Shared} {M : Model} {env : Env} {E : Value → Shared → Prop}
theorem cw_type {pos : Pos} {T : String} {first : List Value} {l : List (Bool × Sem Value)} {Q : Value → Shared → Prop} (h : wpAny M A (spliced l) (fun vs s₁ => wpAny M A (call (.type T) (first ++ vs)) Q E s₁) E s)
    (hl : l.any (·.1) = false := by rfl) : wpAny M A (callWith pos (.type T) first l []) Q E s := by
  unfold callWith
  refine wpAny_bind (wpAny_holding (wpAny_mono (evalArgs_any (Q := fun x s₁ => wpAny M A (call (.type T) (first ++ x.pos) x.kw) Q E s₁) hl h) (fun x s₁ h₁ => wpAny_bind (wpAny_standAt ?_)) fun _ _ x => x))
  simp only [hl, List.any_nil, Bool.or_false]
  refine wpAny_bind (wpAny_pure ?_)
  exact wpAny_bind (wpAny_mono h₁ (fun r s₂ hr => wpAny_bind (wpAny_holding (wpAny_point (wpAny_pure hr)))) fun _ _ x => x)
theorem is_type {T U : String} {Q : Value → Shared → Prop} {b : Bool} (e : isSame (.type T) (.type U) = pure b) (h : Q (.bool b) s) : wpAny M A (compareOp .Is (.type T) (.type U)) Q E s := by
  show wpAny M A (do return .bool (← isSame (.type T) (.type U))) Q E s
  exact wpAny_bind (wpAny_of_eq e (wpAny_pure h))
theorem isnot_type {T U : String} {Q : Value → Shared → Prop} {b : Bool} (e : isSame (.type T) (.type U) = pure b) (h : Q (.bool (!b)) s) : wpAny M A (compareOp .IsNot (.type T) (.type U)) Q E s := by
  show wpAny M A (do return .bool (!(← isSame (.type T) (.type U)))) Q E s
  exact wpAny_bind (wpAny_of_eq e (wpAny_pure h))
theorem same_str : isSame (.type "str") (.type "str") = pure true := rfl
theorem same_list : isSame (.type "list") (.type "list") = pure true := rfl
theorem truthy_none {Q : Bool → Shared → Prop} (h : Q false s) : wpAny M A (truthy .none) Q E s := fun _ _ _ => h
theorem boot_str' : bootBuiltins "str" = some (.type "str") := by decide +kernel
theorem boot_type' : bootBuiltins "type" = some (.type "type") := by decide +kernel
theorem boot_list' : bootBuiltins "list" = some (.type "list") := by decide +kernel
theorem boot_range' : bootBuiltins "range" = some (.type "range") := by decide +kernel
theorem boot_int' : bootBuiltins "int" = some (.type "int") := by decide +kernel
theorem boot_len' : bootBuiltins "len" = some (.builtin "len") := by decide +kernel

theorem conv_spec {n : Nat} {Q : Value → Shared → Prop} (G : Gl w s.heap) (ok : Ok A (n + 1)) {self : Value} {x : Str} {t : Tok} {b : Bool} (hc : ∀ c ∈ x.cps.toList, (if b then clN c else clV c) = false) (hsz : x.length ≤ sizeLine)
    (k : ∀ h' t', Keeps s.heap h' → Q (.str x t) { s with heap := h', toks := t' }) :
    wpAny (model prog w) A (call (.ref 83) [self, .str x t] [("name", .bool b)]) Q E s := by
  refine call_fn (args := ⟨[self, .str x t], [("name", .bool b)]⟩) (binds := [("self", self), ("value", .str x t), ("name", .bool b)]) G ok rfl rfl rfl rfl rfl rfl rfl (.of_eq rfl) (by decide) rfl rfl rfl rfl fun h₁ t₁ ok' O => ?_
  refine wpAny_execs_cons (wpAny_If ?_)
  refine wpAny_isTrue_Compare1 (name_call (nm_blt G O rfl boot_type' (cw_type (wpAny_items_cons (nm_loc O rfl (wpAny_items_nil (call_type_of (typeIs_str _ _ _) (by decide) ?_)))))))
  refine nm_blt G O rfl boot_str' (is_type same_str (wpAny_truthy_bool ?_))
  rw [if_pos rfl]
  have hi : ∀ i, i < x.cps.size → x.cps.getD i 0 ∈ x.cps.toList := by
    intro i hi
    have : x.cps.getD i 0 = x.cps[i] := by simp [Array.getD, hi]
    rw [this, Array.mem_toList_iff]; exact Array.getElem_mem hi
  obtain ⟨pat, code, hp, hr, hn⟩ : ∃ pat code, IsPat s.heap pat code ∧ Runs (forSearch code x.cps 0 0 x.cps.size false) 1 Miss ∧ pat = (if b then 48 else 53) := by
    cases b with
    | true => exact ⟨48, codeN, patN G, searchN_miss fun i hl => hc _ (hi i hl), rfl⟩
    | false => exact ⟨53, codeV, patV G, searchV_miss fun i hl => hc _ (hi i hl), rfl⟩
  refine wpAny_execs_cons (wpAny_Assign_Name (wpAny_mono (Q := fun v s' => v = .ref pat ∧ s' = { s with heap := h₁, toks := t₁ }) (wpAny_IfExp (wpAny_isTrue_value (nm_loc O rfl (wpAny_truthy_bool ?_)))) ?_ fun _ _ x => x))
  · cases b with
    | true => exact nm_glob G O rfl ⟨by rw [hn]; rfl, rfl⟩
    | false => exact nm_glob G O rfl ⟨by rw [hn]; rfl, rfl⟩
  rintro v s' ⟨rfl, rfl⟩
  refine st_loc O fun h₂ t₂ O2 => ?_
  refine wpAny_execs_cons (wpAny_If (wpAny_isTrue_value ?_))
  refine meth_call (nm_loc O2 (upd_same ..) ((hp.keeps O2.keep).gm_search (cw_blt ?_)))
  refine wpAny_items_cons (nm_loc O2 (upd_ne (by decide) rfl) (wpAny_items_nil ?_))
  refine call_search (hp.keeps O2.keep) hsz hr (by decide) (truthy_none ?_)
  rw [if_neg Bool.false_ne_true]
  refine wpAny_execs_nil ?_
  refine wpAny_execs_cons (wpAny_Return_some (nm_loc O2 (upd_ne (by decide) rfl) ?_))
  exact k _ _ O2.keep
end
end Mine
end

section
set_option maxRecDepth 100000
set_option Elab.async false
open PySem PySem.Sre PySem.Calls PySem.W PyProof.Rows
namespace Mine
/-- an iterator of n turns -/
structure IterK (prog : Program) (w : World) (n : Nat) (P : Nat → Obj → Prop) (side : Heap → Prop) (val : Nat → Value → Prop) : Prop where
  self : ∀ {A : Around} {E : Value → Shared → Prop} {s : Shared} {it : Addr} {k : Nat} {Q : Value → Shared → Prop}, (∃ o, s.heap.get? it = some o ∧ P k o) → Q (.ref it) s → wpAny (model prog w) A (pyIter (.ref it)) Q E s
  next : ∀ {A : Around} {E : Value → Shared → Prop} {s : Shared} {it : Addr} {k : Nat} {Q : Option Value → Shared → Prop}, A.handled = none → k < n → side s.heap →
    (∃ o, s.heap.get? it = some o ∧ P k o) → (∀ v h' t', val k v → Heap.SameBut it s.heap h' → (∃ o, h'.get? it = some o ∧ P (k + 1) o) → Q (some v) { s with heap := h', toks := t' }) →
    wpAny (model prog w) A (pyNext (.ref it)) Q E s
  stop : ∀ {A : Around} {E : Value → Shared → Prop} {s : Shared} {it : Addr} {Q : Option Value → Shared → Prop}, A.handled = none → side s.heap →
    (∃ o, s.heap.get? it = some o ∧ P n o) → (∀ h' t', Heap.ExtBut it s.heap h' → Q none { s with heap := h', toks := t' }) → wpAny (model prog w) A (pyNext (.ref it)) Q E s

def isLI (l : Addr) (i : Nat) (o : Obj) : Prop := o.cls = .type "list_iterator" ∧ o.data = .fields #[.ref l, .int i 0]
theorem iterL {prog : Program} {w : World} (l : Addr) (its : List Value) : IterK prog w its.length (isLI l) (fun h => h.IsList l its.toArray) (fun k v => its[k]? = some v) where
  self hit hq := let ⟨o, ho, hp⟩ := hit; wpAny_pyIter_listiter (l := l) ⟨o, ho, hp⟩ hq
  next hh hk hs hit hq := by
    obtain ⟨o, ho, hp⟩ := hit
    obtain ⟨v, hv⟩ : ∃ v, its[_]? = some v := ⟨_, List.getElem?_eq_getElem hk⟩
    exact wpAny_pyNext_list_item ⟨o, ho, hp⟩ hs (by simpa using hv) fun h' h1 h2 => hq v h' _ hv h2 h1
  stop hh hs hit hq := by
    obtain ⟨o, ho, hp⟩ := hit
    exact wpAny_pyNext_list_end hh ⟨o, ho, hp⟩ hs (by simp) fun h' h1 => hq h' _ h1

def isTI (l : Addr) (i : Nat) (o : Obj) : Prop := o.cls = .type "tuple_iterator" ∧ o.data = .fields #[.ref l, .int i 0]
theorem iterT {prog : Program} {w : World} (l : Addr) (its : List Value) : IterK prog w its.length (isTI l) (fun h => h.IsTuple l its.toArray) (fun k v => its[k]? = some v) where
  self hit hq := let ⟨o, ho, hp⟩ := hit; wpAny_pyIter_tupleiter (t := l) ⟨o, ho, hp⟩ hq
  next hh hk hs hit hq := by
    obtain ⟨o, ho, hp⟩ := hit
    obtain ⟨v, hv⟩ : ∃ v, its[_]? = some v := ⟨_, List.getElem?_eq_getElem hk⟩
    exact wpAny_pyNext_tuple_item ⟨o, ho, hp⟩ hs (by simpa using hv) fun h' h1 h2 => hq v h' _ hv h2 h1
  stop hh hs hit hq := by
    obtain ⟨o, ho, hp⟩ := hit
    exact wpAny_pyNext_tuple_end hh ⟨o, ho, hp⟩ hs (by simp) fun h' h1 => hq h' _ h1

def isRI (a : Int) (n i : Nat) (o : Obj) : Prop := o = { cls := .type "range_iterator", dict := none, data := .fields #[rawInt (a + i), rawInt ((n : Int) - i), rawInt 1], slots := #[] }
theorem iterR {prog : Program} {w : World} (a : Int) (n : Nat) : IterK prog w n (isRI a n) (fun _ => True) (fun k v => ∃ t, v = .int (a + k) t) where
  self hit hq := let ⟨o, ho, hp⟩ := hit; wpAny_pyIter_rangeiter (hp ▸ ho) hq
  next {_ _ _ _ k _} hh hk hs hit hq := by
    obtain ⟨o, ho, hp⟩ := hit
    refine wpAny_pyNext_range_item (step := 1) (hp ▸ ho) (by omega) fun h' h1 h2 => hq _ h' _ ⟨_, rfl⟩ h2 ⟨_, h1, ?_⟩
    have e1 : a + ((k + 1 : Nat) : Int) = a + (k : Int) + 1 := by omega
    have e2 : (n : Int) - ((k + 1 : Nat) : Int) = (n : Int) - (k : Int) - 1 := by omega
    unfold isRI
    rw [e1, e2]
  stop hh hs hit hq := by
    obtain ⟨o, ho, hp⟩ := hit
    exact wpAny_pyNext_range_end hh (hp ▸ ho) (by omega) fun h' h1 => hq h' _ h1

def isSI (x : Str) (t : Tok) (i : Nat) (o : Obj) : Prop := o.cls = .type "str_ascii_iterator" ∧ o.data = .fields #[.str x t, .int i 0]
theorem iterS {prog : Program} {w : World} (x : Str) (t : Tok) : IterK prog w x.cps.size (isSI x t) (fun _ => True) (fun k v => ∃ c u, x.cps[k]? = some c ∧ v = .str ⟨#[c]⟩ u) where
  self hit hq := let ⟨o, ho, hp⟩ := hit; wpAny_pyIter_striter_ascii (x := x) (t := t) ⟨o, ho, hp⟩ hq
  next hh hk hs hit hq := by
    obtain ⟨o, ho, hp⟩ := hit
    obtain ⟨v, hv⟩ : ∃ v, x.cps[_]? = some v := ⟨_, Array.getElem?_eq_getElem hk⟩
    exact wpAny_pyNext_ascii_item ⟨o, ho, hp⟩ hv fun h' h1 h2 => hq _ h' _ ⟨v, _, hv, rfl⟩ h2 h1
  stop hh hs hit hq := by
    obtain ⟨o, ho, hp⟩ := hit
    exact wpAny_pyNext_ascii_end hh ⟨o, ho, hp⟩ (by simp) fun h' h1 => hq h' _ h1

def isKI (d : Addr) (n ep i : Nat) (o : Obj) : Prop := o.cls = .type "dict_keyiterator" ∧ o.data = .fields #[.ref d, .int i 0, .int n 0, .int ep 0]
theorem iterD {prog : Program} {w : World} (d : Addr) (kvs : List (Int × Value)) (ep : Nat) : IterK prog w kvs.length (isKI d kvs.length ep) (fun h => h.DictAt (intKind prog w) d kvs ep) (fun k v => ∃ q t, kvs[k]? = some q ∧ v = .int q.1 t) where
  self hit hq := let ⟨o, ho, hp⟩ := hit; wpAny_pyIter_keyiter (d := d) (n := kvs.length) (ep := ep) ⟨o, ho, hp⟩ hq
  next hh hk hs hit hq := by
    obtain ⟨o, ho, hp⟩ := hit
    obtain ⟨v, hv⟩ : ∃ v, kvs[_]? = some v := ⟨_, List.getElem?_eq_getElem hk⟩
    refine wpAny_pyNext_dict_item ⟨o, ho, hp⟩ hs (k := v.1) (v := v.2) hv fun key h' hkey h1 h2 => hq _ h' _ ?_ h2 h1
    obtain ⟨t, rfl⟩ := Value.isInt_shape hkey
    exact ⟨v, t, hv, rfl⟩
  stop hh hs hit hq := by
    obtain ⟨o, ho, hp⟩ := hit
    exact wpAny_pyNext_dict_end hh ⟨o, ho, hp⟩ hs (by simp) fun h' h1 => hq h' _ h1

section
variable {prog : Program} {w : World} {A : Around} {s : Shared} {env : Env} {E : Value → Shared → Prop}
theorem for_gen {n : Nat} {P : Nat → Obj → Prop} {side : Heap → Prop} {val : Nat → Value → Prop} (I : IterK prog w n P side val) {x : Str} {px pos : Pos} {iter : Expr} {body : List Stmt} {h₀ : Heap} {L : Addr} (J : Nat → Loc → Cells → Prop) {Q : Flow → Shared → Prop}
    (hh : A.handled = none)
    (init : wpAny (model prog w) A (eval iter env) (fun xv s₁ => wpAny (model prog w) A (pyIter xv) (fun itv s₂ => ∃ it h₂ t₂ m cs, itv = .ref it ∧ s₂ = { s with heap := h₂, toks := t₂ } ∧ Own h₀ L m ((it, P 0) :: cs) h₂ ∧ J 0 m cs) (fun _ _ => False) s₁) (fun _ _ => False) s)
    (hside : ∀ k m cs h, J k m cs → Own h₀ L m cs h → side h)
    (turn : ∀ k v m cs h t it, k < n → val k v → J k m cs → Own h₀ L (upd m x v) ((it, P (k + 1)) :: cs) h →
      wpAny (model prog w) A (execs body env) (fun f s' => (f = .next ∨ f = .cont) ∧ ∃ h' t' m' cs', s' = { s with heap := h', toks := t' } ∧ Own h₀ L m' ((it, P (k + 1)) :: cs') h' ∧ J (k + 1) m' cs') (fun _ _ => False) { s with heap := h, toks := t })
    (fin : ∀ m cs h t, J n m cs → Own h₀ L m cs h → Q .next { s with heap := h, toks := t })
    (hs : ∀ x, foldedSetIterable iter env x = pure x := by intro _; rfl) (hL : env.locals = L := by rfl) (hk : env.scope.kind = .function := by rfl) (hl : env.kindOf x = some .local := by rfl) :
    wpAny (model prog w) A (exec (.For (.Name x px) iter body [] pos) env) Q E s := by
  refine wpAny_For (wpAny_mono init (fun xv s₁ h₁ => wpAny_mono h₁ (fun itv s₂ h₂ => ?_) fun _ _ x => x.elim) fun _ _ x => x.elim) hs
  obtain ⟨it, h₂, t₂, m, cs, rfl, rfl, O, hJ⟩ := h₂
  refine codeAny_forLoop (I := fun r s' => ∃ k h' t' m' cs', s' = { s with heap := h', toks := t' } ∧ Own h₀ L m' ((it, P k) :: cs') h' ∧ J k m' cs' ∧ k ≤ n ∧ r = n + 1 - k) ?_ (n + 1)
    ⟨0, h₂, t₂, m, cs, rfl, O, hJ, Nat.zero_le _, rfl⟩
  rintro r s' ⟨k, h', t', m', cs', rfl, O', hJ', hkn, hr⟩
  by_cases hlt : k < n
  · refine I.next hh hlt (hside _ _ _ _ hJ' O'.drop) (O'.own _ (.head _)).1 fun v h₃ t₃ hv hs₃ hp₃ => ?_
    have O₃ := O'.set hs₃ hp₃
    refine wpAny_assign_Name (st_loc O₃ (fun h₄ t₄ O₄ => ?_) hL hk hl)
    refine wpAny_mono (turn k v m' cs' h₄ t₄ it hlt hv hJ' O₄) (fun f s₅ h₅ => ?_) fun _ _ x => x.elim
    obtain ⟨hf, h₅, t₅, m₅, cs₅, rfl, O₅, hJ₅⟩ := h₅
    rcases hf with rfl | rfl
    · exact ⟨n + 1 - (k + 1), by omega, k + 1, h₅, t₅, m₅, cs₅, rfl, O₅, hJ₅, hlt, rfl⟩
    · exact ⟨n + 1 - (k + 1), by omega, k + 1, h₅, t₅, m₅, cs₅, rfl, O₅, hJ₅, hlt, rfl⟩
  · have hkn' : k = n := by omega
    subst hkn'
    refine I.stop hh (hside _ _ _ _ hJ' O'.drop) (O'.own _ (.head _)).1 fun h₃ t₃ hs₃ => wpAny_execs_nil ?_
    exact fin m' cs' h₃ t₃ hJ' (O'.ext hs₃)
theorem range_1 {h₀ : Heap} {L : Addr} {m : Loc} {cs : Cells} {n : Nat} {t : Tok} {Q : Value → Shared → Prop} (O : Own h₀ L m cs s.heap) (hn : n ≤ 1000)
    (h : ∀ it h' t', Own h₀ L m ((it, isRI 0 n 0) :: cs) h' → Keeps s.heap h' → s.heap.objs.size ≤ it → Q (.ref it) { s with heap := h', toks := t' }) :
    wpAny (model prog w) A (call (.type "range") [.int n t]) (fun xv s₁ => wpAny (model prog w) A (pyIter xv) Q E s₁) E s := by
  refine call_range_1 ?_
  have O₁ := O.push { cls := .type "range", data := .fields #[.int 0 s.toks, .int n t, .int 1 (s.toks + 1)] } (P := fun _ => True) trivial
  refine wpAny_pyIter_range (a := 0) (b := n) (c := 1) (Heap.get?_push_size _ rfl) (small_one (by omega) (by omega) (by omega) (by omega)) ?_
  have O₂ := O₁.push { cls := .type "range_iterator", data := .fields #[rawInt 0, rawInt (Builtin.Range.rangeSize 0 n 1), rawInt 1] } (P := isRI 0 n 0) (by
    unfold isRI
    rw [rangeSize_one]
    have : (if (0 : Int) < (n : Int) then (n : Int) - 0 else 0) = n := by split <;> omega
    rw [this]
    simp)
  refine h _ _ _ (O₂.sub ?_) (fun b o e => Heap.get?_push_of_some _ (Heap.get?_push_of_some _ e)) ?_
  · exact .cons_cons _ (.cons _ (List.Sublist.refl _))
  · rw [Heap.size_push]; omega
theorem range_2 {h₀ : Heap} {L : Addr} {m : Loc} {cs : Cells} {a : Int} {n : Nat} {t u : Tok} {Q : Value → Shared → Prop} {b : Int} (O : Own h₀ L m cs s.heap) (ha : 0 ≤ a) (ha' : a ≤ 1000) (hn : n ≤ 1000) (hb : b = a + n)
    (h : ∀ it h' t', Own h₀ L m ((it, isRI a n 0) :: cs) h' → Q (.ref it) { s with heap := h', toks := t' }) :
    wpAny (model prog w) A (call (.type "range") [.int a t, .int b u]) (fun xv s₁ => wpAny (model prog w) A (pyIter xv) Q E s₁) E s := by
  subst hb
  refine call_range_2 ?_
  have O₁ := O.push { cls := .type "range", data := .fields #[.int a t, .int (a + n) u, .int 1 s.toks] } (P := fun _ => True) trivial
  refine wpAny_pyIter_range (a := a) (b := a + n) (c := 1) (Heap.get?_push_size _ rfl) (small_one (by omega) (by omega) (by omega) (by omega)) ?_
  have O₂ := O₁.push { cls := .type "range_iterator", data := .fields #[rawInt a, rawInt (Builtin.Range.rangeSize a (a + n) 1), rawInt 1] } (P := isRI a n 0) (by
    unfold isRI
    rw [rangeSize_one]
    have : (if (a : Int) < a + (n : Int) then a + (n : Int) - a else 0) = n := by split <;> omega
    rw [this]
    simp)
  refine h _ _ _ (O₂.sub ?_)
  exact .cons_cons _ (.cons _ (List.Sublist.refl _))
end
end Mine
end

section
set_option maxRecDepth 100000
set_option Elab.async false
open PySem PySem.Sre PySem.Calls PySem.W PyProof.Rows
namespace Mine
def isInst (C dx : Addr) (o : Obj) : Prop := o = instObj C dx
def isHd (lst : Addr) (o : Obj) : Prop := ∃ hs tk n, o = dictOf [⟨hs, .str "_headers" tk, .ref lst⟩] n
def isL (its : List Value) (o : Obj) : Prop := ∃ n, o = { cls := .type "list", dict := none, data := .seq its.toArray n, slots := #[] }
def isTup (its : List Value) (o : Obj) : Prop := ∃ n, o = { cls := .type "tuple", dict := none, data := .seq its.toArray n, slots := #[] }
theorem isL.list {h : Heap} {a : Addr} {its : List Value} (x : ∃ o, h.get? a = some o ∧ isL its o) : h.IsList a its.toArray := let ⟨_, e, n, q⟩ := x; ⟨_, e, by rw [q], n, by rw [q]⟩
theorem isL.at_ {h : Heap} {a : Addr} {its : List Value} (x : ∃ o, h.get? a = some o ∧ isL its o) : ∃ n, IsL h a its.toArray n := let ⟨_, e, n, q⟩ := x; ⟨n, by rw [q] at e; exact e⟩

theorem Own.news {h₀ h : Heap} {L : Addr} {m : Loc} {cs : Cells} {a : Addr} {P : Obj → Prop} {o : Obj} (O : Own h₀ L m ((a, P) :: cs) h) (e : h.get? a = some o) : News h₀ L h [(a, o)] := by
  intro p hp
  rw [List.mem_singleton] at hp; subst hp
  exact ⟨e, (O.own _ (.head _)).2⟩
section
variable {prog : Program} {w : World} {A : Around} {s : Shared} {M : Model} {env : Env} {E : Value → Shared → Prop}

theorem forLoop_none {target : Expr} {it : Value} {body : List Stmt} {R : Result → Shared → Prop} (h : wpAny (model prog w) A (pyNext it) (fun r s₁ => r = none ∧ R (.ok .next) s₁) (fun _ _ => False) s) :
    codeAny (model prog w) A (.forLoop target it body [] env) R s := by
  refine codeAny_loop' rfl (fun k s' => k = 0 ∧ s' = s) ?_ 0 ⟨rfl, rfl⟩
  rintro k s' ⟨rfl, rfl⟩
  show wpAny _ _ ((forTurn target it body [] env).onRaise (fun x => do noteFrame x env; theTreesLotGoes x)) _ _ s'
  refine wpAny_noted ?_
  simp only [forTurn]
  refine wpAny_bind (wpAny_standAt (wpAny_bind (wpAny_onRaise (wpAny_mono h (fun r s₁ h₁ => ?_) fun _ _ x => x.elim))))
  obtain ⟨rfl, h₁⟩ := h₁
  exact wpAny_pure (.inr ⟨rfl, codeAny_block (wpAny_execs_nil h₁)⟩)

theorem debug_true {pos : Pos} {Q : Value → Shared → Prop} (h : Q (.bool true) s) : wpAny M A (eval (.Name "__debug__" pos) env) Q E s := by
  show wpAny M A (do standAt pos; debugConstant) Q E s
  refine wpAny_bind (wpAny_standAt ?_)
  unfold debugConstant
  exact wpAny_bind (wpAny_rule (wpAny_pure h))

theorem init_spec {n : Nat} {R : Result → Shared → Prop} {dx : Addr} (G : Gl w (s.heap.hide dx)) (ok : Ok A (n + 1)) {x lst : Addr} (hx : s.heap.get? x = some (instObj 182 dx)) (hdx : s.heap.get? dx = some (dictOf [] 0)) (hl : ∃ o, s.heap.get? lst = some o ∧ isL [] o)
    (k : ∀ h' t', Heap.ExtBut dx s.heap h' → (∃ o, h'.get? dx = some o ∧ isHd lst o) → R (.ok (.ret .none)) { s with heap := h', toks := t' }) :
    codeAny (model prog w) A (.call (.ref 76) ⟨[.ref x, .ref lst], []⟩) R s := by
  refine call_fnc (args := ⟨[.ref x, .ref lst], []⟩) (binds := [("self", .ref x), ("headers", .ref lst)]) (G.keeps (unhide _ _)) ok rfl rfl rfl rfl rfl rfl rfl (.of_defaults (o := { cls := .type "tuple", data := .seq #[.none] }) rfl ((G.keeps (unhide _ _)).K 69 _ rfl) rfl rfl rfl) (by decide) rfl rfl rfl rfl fun h₁ t₁ ok' O => ?_
  have O := O.hide (P := fun o => o = dictOf [] 0) hdx rfl
  have nx : x ≠ dx := by rintro rfl; exact absurd (hx.symm.trans hdx) (by simp)
  have nl : lst ≠ dx := by
    rintro rfl
    obtain ⟨o, e, q, r⟩ := hl
    rw [hdx] at e; cases e; exact absurd r (by simp)
  have hx0 := (Heap.hide_ne s.heap nx).trans hx
  have hl0 : ∃ o, (s.heap.hide dx).get? lst = some o ∧ isL [] o := let ⟨o, e, q⟩ := hl; ⟨o, (Heap.hide_ne s.heap nl).trans e, q⟩
  refine wpAny_execs_cons (wpAny_Assign_Name (wpAny_IfExp (wpAny_isTrue_Compare1 (nm_loc O rfl (wpAny_Constant_none (isNot_none (wpAny_truthy_bool ?_)))))))
  refine ite_pos rfl ?_
  refine nm_loc O rfl (st_loc O fun h₂ t₂ O => ?_)
  have tl : ∀ {h : Heap}, Keeps (s.heap.hide dx) h → ∃ o, h.get? lst = some o ∧ isL [] o := fun k => let ⟨o, e, q⟩ := hl0; ⟨o, k _ _ e, q⟩
  refine wpAny_execs_cons (wpAny_If (wpAny_isTrue_Compare1 (name_call (nm_blt G O rfl boot_type' (cw_type ?_)))))
  refine wpAny_items_cons (nm_loc O (upd_same ..) (wpAny_items_nil (call_type_of (isL.list (tl O.keep)).typeIs (by decide) ?_)))
  refine nm_blt G O rfl boot_list' (isnot_type same_list (wpAny_truthy_bool ?_))
  refine ite_neg (by decide) ?_
  refine wpAny_execs_nil ?_
  refine wpAny_execs_cons (plainObj_wpAny_Assign_Attribute (nm_loc O (upd_same ..) (nm_loc O (upd_ne (by decide) rfl) ?_)))
  obtain ⟨o, e, rfl⟩ := (O.own _ (.head _)).1
  refine set_dict (es := []) (n := 0) (C := 182) (x := x) (dx := dx) (ox := instObj 182 dx) O.fr G.K (O.news e) ⟨O.keep _ _ hx0, rfl, rfl, e⟩ rfl rfl rfl rfl rfl rfl rfl (.head fun _ h => (nomatch h)) (Nat.le_of_ble_eq_true rfl) fun h₃ F₃ N₃ => ?_
  have O₃ : Own (s.heap.hide dx) s.heap.objs.size (upd (fun y => List.lookup y [((PySem.Str.ofString "self"), Value.ref x), (PySem.Str.ofString "headers", Value.ref lst)].reverse) "headers" (.ref lst)) [(dx, isHd lst)] h₃ := by
    refine ⟨F₃, fun p hp => ?_, by simp⟩
    rw [List.mem_singleton] at hp; subst hp
    have := N₃ _ (.head _)
    exact ⟨⟨_, this.1, _, _, _, rfl⟩, this.2⟩
  refine wpAny_execs_cons (wpAny_If (wpAny_isTrue_value (wpAny_Constant_bool (wpAny_truthy_bool ?_))))
  refine ite_pos rfl ?_
  refine wpAny_execs_cons (wpAny_For (nm_loc O₃ (upd_same ..) (wpAny_pyIter_list (isL.list (tl O₃.keep)) ?_)))
  have O₄ := O₃.push { cls := .type "list_iterator", data := .fields #[.ref lst, .int 0 0] } (P := isLI lst 0) ⟨rfl, rfl⟩
  refine forLoop_none ((iterL lst []).stop ok'.hd (isL.list (tl O₄.keep)) (O₄.own _ (.head _)).1 fun h₅ t₅ x₅ => ⟨rfl, ?_⟩)
  have O₅ := O₄.ext x₅
  refine wpAny_execs_nil (wpAny_execs_nil ?_)
  exact k _ _ (ext_of_hide O₅.keep) (O₅.own _ (.head _)).1
end
end Mine
end

section
set_option maxRecDepth 100000
set_option Elab.async false
open PySem PySem.Sre PySem.Calls PySem.W PyProof.Rows
namespace Mine
section
variable {prog : Program} {w : World} {A : Around} {s : Shared} {M : Model} {env : Env} {E : Value → Shared → Prop} {h₀ : Heap} {L : Addr} {m : Loc} {cs : Cells}

theorem meth_call_kw {o : Expr} {name : Str} {apos pos : Pos} {args : List Expr} {kws : List Keyword} {pl : Sem Bool} {Q : Value → Shared → Prop}
    (h : wpAny M A (eval o env) (fun ov s₁ => wpAny M A (getMethod ov name pl) (fun fa s₂ => wpAny M A (callWith pos fa.1 fa.2 (backTo pos (starEach args env)) (backToKw pos (keywordEach kws env))) Q E s₂) E s₁) E s)
    (hb : attributeBase o name env (eval o env) = eval o env := by rfl) (hf : methodCallForm (args.length + kws.length) (backTo pos (starEach args env)) (backToKw pos (keywordEach kws env)) = true := by rfl) (hp : methodCallPos true o env apos pos = pure pos := by rfl)
    (hpl : ∀ ov, calleeOf true o env ov name = getMethod ov name pl := by intro _; rfl) :
    wpAny M A (eval (.Call (.Attribute o name apos) args kws pos) env) Q E s := by
  rw [arm_eval_Call, hb]
  refine wpAny_bind (wpAny_mono h (fun ov s₁ h₁ => wpAny_bind (wpAny_standAt ?_)) fun _ _ x => x)
  unfold methodCall
  rw [hf, hpl]
  refine wpAny_bind (wpAny_holding (wpAny_mono h₁ (fun fa s₂ h₂ => ?_) fun _ _ x => x))
  rw [hp]
  exact wpAny_bind (wpAny_pure h₂)
theorem cw_fn_kw {pos : Pos} {f : Addr} {o : Obj} {fd : FuncData} {first : List Value} {x : Sem Value} {rest : List (Bool × Sem Value)} {kws : List (Option Str × Sem Value)} {Q : Value → Shared → Prop} (hall : kws.all (·.1.isSome) = true)
    (h : wpAny M A (spliced ((false, x) :: rest)) (fun vs s₁ => wpAny M A (evalAll (kws.map (·.2))) (fun ks s₂ => (s₂.heap.get? f = some o ∧ o.data = .func fd) ∧ wpAny M A (call (.ref f) (first ++ vs) ((kws.filterMap (·.1)).zip ks)) Q E s₂) E s₁) E s) :
    wpAny M A (callWith pos (.ref f) first ((false, x) :: rest) kws) Q E s :=
  callWith_function_kw (evalArgs_kw (Q := fun a s₂ => (s₂.heap.get? f = some o ∧ o.data = .func fd) ∧ wpAny M A (call (.ref f) (first ++ a.pos) a.kw) Q E s₂) hall h)

/-- the book: its object, its dict, its list's place -/
structure Book (h : Heap) (x lst : Addr) : Prop where
  it : ∃ dx, h.get? x = some (instObj 182 dx) ∧ ∃ o, h.get? dx = some o ∧ isHd lst o
theorem Book.keeps {h h' : Heap} {x lst : Addr} (B : Book h x lst) (k : Keeps h h') : Book h' x lst := let ⟨dx, a, o, b, c⟩ := B.it; ⟨dx, k _ _ a, o, k _ _ b, c⟩
theorem Book.hide {h : Heap} {x lst : Addr} {its : List Value} (B : Book h x lst) (l : ∃ o, h.get? lst = some o ∧ isL its o) : Book (h.hide lst) x lst := by
  obtain ⟨dx, a, o, b, hs, tk, n, rfl⟩ := B.it
  obtain ⟨ol, el, nl, rfl⟩ := l
  have n1 : x ≠ lst := by rintro rfl; exact absurd (a.symm.trans el) (by simp)
  have n2 : dx ≠ lst := by rintro rfl; exact absurd (b.symm.trans el) (by simp)
  exact ⟨dx, (Heap.hide_ne h n1).trans a, _, (Heap.hide_ne h n2).trans b, hs, tk, n, rfl⟩
theorem Book.inst {h : Heap} {x lst : Addr} (B : Book h x lst) : ∃ dx es n, InstAt h x (instObj 182 dx) 182 (some (dictOf es n)) ∧ ∃ hs tk, es = [⟨hs, .str "_headers" tk, .ref lst⟩] := by
  obtain ⟨dx, a, o, b, hs, tk, n, rfl⟩ := B.it
  exact ⟨dx, _, n, ⟨a, rfl, rfl, b⟩, hs, tk, rfl⟩
theorem Book.gm_conv {x lst : Addr} {pl : Sem Bool} {Q : Value × List Value → Shared → Prop} (B : Book s.heap x lst) (G : Gl w h₀) (O : Own h₀ L m cs s.heap) (h : Q (.ref 83, [.ref x]) s) : wpAny (model prog w) A (getMethod (.ref x) "_convert_string_type" pl) Q E s := by
  obtain ⟨dx, es, n, I, hs, tk, rfl⟩ := B.inst
  exact method_inst (name := "_convert_string_type") (f := 83) O.fr G.K I rfl rfl rfl rfl h
theorem Book.gm_add {x lst : Addr} {pl : Sem Bool} {Q : Value × List Value → Shared → Prop} (B : Book s.heap x lst) (G : Gl w h₀) (O : Own h₀ L m cs s.heap) (h : Q (.ref 179, [.ref x]) s) : wpAny (model prog w) A (getMethod (.ref x) "add_header" pl) Q E s := by
  obtain ⟨dx, es, n, I, hs, tk, rfl⟩ := B.inst
  exact method_inst (name := "add_header") (f := 179) O.fr G.K I rfl rfl rfl rfl h
theorem Book.gm_all {x lst : Addr} {pl : Sem Bool} {Q : Value × List Value → Shared → Prop} (B : Book s.heap x lst) (G : Gl w h₀) (O : Own h₀ L m cs s.heap) (h : Q (.ref 121, [.ref x]) s) : wpAny (model prog w) A (getMethod (.ref x) "get_all" pl) Q E s := by
  obtain ⟨dx, es, n, I, hs, tk, rfl⟩ := B.inst
  exact method_inst (name := "get_all") (f := 121) O.fr G.K I rfl rfl rfl rfl h
theorem Book.attr {x lst : Addr} {expr : Bool} {Q : Value → Shared → Prop} (B : Book s.heap x lst) (G : Gl w h₀) (O : Own h₀ L m cs s.heap) (h : ∀ t', Q (.ref lst) { s with toks := t' }) : wpAny (model prog w) A (getAttr (.ref x) "_headers" expr) Q E s := by
  obtain ⟨dx, es, n, I, hs, tk, rfl⟩ := B.inst
  exact get_own (attr := none) O.fr G.K I rfl rfl rfl rfl rfl rfl (h _)

theorem o_newList {vs : List Value} {Q : Value → Shared → Prop} (O : Own h₀ L m cs s.heap) (hsz : vs.length ≤ sizeLine) (h : ∀ a h' t', Own h₀ L m ((a, isL vs) :: cs) h' → Keeps s.heap h' → Q (.ref a) { s with heap := h', toks := t' }) :
    wpAny M A (newList vs) Q E s :=
  wpAny_newObj_type (h _ _ s.toks (O.push _ ⟨0, rfl⟩) fun b o e => Heap.get?_push_of_some _ e) (by show vs.toArray.size ≤ sizeLine; rw [List.size_toArray]; exact hsz)
theorem o_newTuple {vs : List Value} {Q : Value → Shared → Prop} (O : Own h₀ L m cs s.heap) (hsz : vs.length ≤ sizeLine) (h : ∀ a h' t', Own h₀ L m ((a, isTup vs) :: cs) h' → Keeps s.heap h' → Q (.ref a) { s with heap := h', toks := t' }) :
    wpAny M A (newTuple vs) Q E s :=
  wpAny_newObj_type (h _ _ s.toks (O.push _ ⟨0, rfl⟩) fun b o e => Heap.get?_push_of_some _ e) (by show vs.toArray.size ≤ sizeLine; rw [List.size_toArray]; exact hsz)
theorem o_append {a : Addr} {its : List Value} {v : Value} {Q : Value → Shared → Prop} (O : Own h₀ L m ((a, isL its) :: cs) s.heap) (hsz : its.length ≤ sizeLine) (h : ∀ h' t', Own h₀ L m ((a, isL (its ++ [v])) :: cs) h' → Q .none { s with heap := h', toks := t' }) :
    wpAny (model prog w) A (call (.builtin "list.append") [.ref a, v]) Q E s := by
  obtain ⟨n, hl⟩ := isL.at_ (O.own _ (.head _)).1
  refine call_meets F.slot_list_append ⟨_, hl, rfl⟩ F.entry_list_append (F.args_list_append_2 _ _) (list_append a its.toArray n v (by simpa using hsz)) ⟨hl, ?_⟩
  refine h _ s.toks (O.set (Heap.SameBut.update ..) ?_)
  have := hl.update (·.push v)
  exact ⟨_, this, _, by simp; rfl⟩
theorem gm_append {a : Addr} {its : List Value} {pl : Sem Bool} {Q : Value × List Value → Shared → Prop} (hl : ∃ o, s.heap.get? a = some o ∧ isL its o) (h : Q (.builtin "list.append", [.ref a]) s) : wpAny M A (getMethod (.ref a) "append" pl) Q E s := by
  obtain ⟨o, e, n, rfl⟩ := hl
  exact getMethod_list_append e rfl rfl h
theorem call_join1 {a : Addr} {sep x : Str} {t u : Tok} {Q : Value → Shared → Prop} (hl : ∃ o, s.heap.get? a = some o ∧ isL [.str x u] o) (hlen : x.length + sep.length ≤ sizeLine) (h : Q (.str x u) s) :
    wpAny (model prog w) A (call (.builtin "str.join") [.str sep t, .ref a]) Q E s := by
  refine call_meets F.slot_str_join (typeIs_str s _ t) F.entry_str_join (F.args_str_join_2 _ _) (meets_str_join_list sep t a [(x, u)] ?_) ⟨isL.list hl, h⟩
  unfold Builtin.Str.tooLong
  exact decide_eq_false (by simp; omega)
end
end Mine
end

section
set_option maxRecDepth 100000
set_option Elab.async false
set_option maxHeartbeats 4000000
set_option linter.unusedVariables false
open PySem PySem.Sre PySem.Calls PySem.W PyProof.Rows
namespace Mine
section
variable {prog : Program} {w : World} {A : Around} {s : Shared} {M : Model} {env : Env} {E : Value → Shared → Prop} {h₀ : Heap} {L : Addr} {m : Loc} {cs : Cells}
def isE (o : Obj) : Prop := o = { cls := .type "dict", data := .dict #[] }
theorem evalAll_one {pos : Pos} {x : Sem Value} {Q : List Value → Shared → Prop} (h : wpAny M A x (fun v s₁ => Q [v] s₁) E s) : wpAny M A (evalAll [do let v ← x; standAt pos; pure v]) Q E s :=
  wpAny_evalAll_cons (wpAny_bind (wpAny_mono h (fun v s₁ h₁ => wpAny_bind (wpAny_standAt (wpAny_pure (wpAny_evalAll_nil h₁)))) fun _ _ x => x))

theorem isE.at_ {h : Heap} {d : Addr} (x : ∃ o, h.get? d = some o ∧ isE o) : h.DictAt (strKind prog w) d [] 0 := by
  obtain ⟨_, e, rfl⟩ := x
  exact ⟨_, #[], e, ⟨rfl, rfl, rfl⟩, rfl, by intro e he; simp at he, .nil, .nil⟩

theorem addh_spec {n : Nat} {Q : Value → Shared → Prop} {x lst : Addr} {its : List Value} {nm vl : Str} {tn tv : Tok} (G : Gl w (s.heap.hide lst)) (ok : Ok A (n + 1 + 1)) (B : Book s.heap x lst) (hl : ∃ o, s.heap.get? lst = some o ∧ isL its o)
    (hnm : ∀ c ∈ nm.cps.toList, clN c = false) (hvl : ∀ c ∈ vl.cps.toList, clV c = false) (sn : nm.length ≤ 1000) (sv : vl.length ≤ 1000) (si : its.length ≤ 1000)
    (k : ∀ h' t' tup u1 u2, Keeps (s.heap.hide lst) h' → (∃ o, h'.get? lst = some o ∧ isL (its ++ [.ref tup]) o) → (∃ o, h'.get? tup = some o ∧ isTup [.str nm u1, .str vl u2] o) → s.heap.get? tup = none → tup ≠ lst → Q .none { s with heap := h', toks := t' }) :
    wpAny (model prog w) A (call (.ref 179) [.ref x, .str nm tn, .str vl tv]) Q E s := by
  have sl : ∀ {x : Str}, x.length ≤ 1000 → x.length ≤ sizeLine := fun h => Nat.le_trans h (by decide)
  refine call_kw (args := ⟨[.ref x, .str nm tn, .str vl tv], []⟩) (binds := fun d => [("self", .ref x), ("_name", .str nm tn), ("_value", .str vl tv), ("_params", .ref d)]) (G.keeps (unhide _ _)) ok rfl rfl rfl rfl rfl rfl rfl rfl (by decide) (fun _ => rfl) rfl rfl rfl fun h₁ t₁ d L hd ok' O => ?_
  obtain ⟨ol, el, pl⟩ := hl
  have B0 := B.hide ⟨ol, el, pl⟩
  have O := O.hide el pl
  refine wpAny_execs_cons (wpAny_Assign_Name (List_ (wpAny_items_nil (o_newList O (by decide) fun pa h₂ t₂ O _ => ?_))))
  refine st_loc O fun h₃ t₃ O => ?_
  refine wpAny_execs_cons (wpAny_If (wpAny_isTrue_Compare1 (nm_loc O (upd_ne (by decide) rfl) (wpAny_Constant_none (isNot_none (wpAny_truthy_bool ?_))))))
  refine ite_pos rfl ?_
  refine wpAny_execs_cons (wpAny_Assign_Name ?_)
  refine meth_call_kw (nm_loc O (upd_ne (by decide) rfl) ((B0.keeps O.keep).gm_conv G O ?_))
  refine cw_fn_kw (o := _) (fd := _) rfl (wpAny_items_cons (nm_loc O (upd_ne (by decide) rfl) (wpAny_items_nil (evalAll_one (wpAny_Constant_bool ⟨⟨(G.keeps O.keep).K 83 _ rfl, rfl⟩, ?_⟩)))))
  refine conv_spec (n := n) (G.keeps O.keep) ok' hvl (sl sv) fun h₄ t₄ k₄ => ?_
  have O := O.keeps k₄
  refine st_loc O fun h₅ t₅ O => ?_
  refine wpAny_execs_cons (wpAny_Expr (meth_call (nm_loc O (upd_ne (by decide) (upd_same ..)) (gm_append (O.own _ (.head _)).1 ?_))))
  refine cw_blt (wpAny_items_cons (nm_loc O (upd_same ..) (wpAny_items_nil ?_)))
  refine o_append O (by decide) fun h₆ t₆ O => ?_
  refine wpAny_execs_nil ?_
  have h3 : 3 < s.heap.objs.size := Heap.lt_size ((G.keeps (unhide _ _)).K 3 _ rfl)
  have lo : (d == sysModules) = false := beq_false_of_ne (by show d ≠ 1; omega)
  refine wpAny_execs_cons (wpAny_For (meth_call (nm_loc O (upd_ne (by decide) (upd_ne (by decide) rfl)) ?_)))
  obtain ⟨od, ed, pd⟩ := O.get 2 rfl
  have Dd := isE.at_ (prog := prog) (w := w) (O.get (P := isE) 2 rfl)
  refine getMethod_builtin ⟨_, ed, by rw [pd]⟩ PySem.F.plainAttrs_dict PySem.F.slot_dict_items PySem.F.type_dict_items (fun a e => by cases e; exact ⟨_, ed, by rw [pd]⟩) ?_
  refine cw_blt (wpAny_items_nil ?_)
  refine call_meetsIn PySem.F.slot_dict_items Dd.dictOf.typeIs PySem.F.entry_dict_items (PySem.F.args_dict_items_1 _) (meets_dict_items (strKind prog w) d lo) ⟨⟨_, Dd.dictOf⟩, ?_⟩
  have O := O.push { cls := .type "dict_items", data := .fields #[.ref d] } (P := fun o => o.cls = .type "dict_items" ∧ o.data = .fields #[.ref d]) ⟨rfl, rfl⟩
  refine wpAny_pyIter_items (knd := strKind prog w) (v := h₆.objs.size) (O.own _ (.head _)).1 (isE.at_ (O.get 3 rfl)) ?_
  have O := O.push { cls := .type "dict_itemiterator", data := .fields #[.none, .bool false, .ref d, .int 0 0, .int 0 0, .int 0 0, .none, .none] } (P := fun o => o = { cls := .type "dict_itemiterator", data := .fields #[.none, .bool false, .ref d, .int 0 0, .int 0 0, .int 0 0, .none, .none] }) rfl
  obtain ⟨oi, ei, pi⟩ := (O.own _ (.head _)).1
  refine forLoop_none (wpAny_pyNext_items_end (knd := strKind prog w) (kvs := []) ok'.hd (pi ▸ ei) (isE.at_ (O.get 4 rfl)) rfl fun h₇ x₇ => ⟨rfl, ?_⟩)
  have O := O.ext x₇
  -- the row goes to the list
  refine wpAny_execs_cons (wpAny_Expr (meth_call (Attribute_Name_ (nm_loc O (upd_ne (by decide) (upd_ne (by decide) rfl)) ((B0.keeps O.keep).attr G O fun t₈ => ?_)))))
  refine gm_append (O.get 2 rfl) (cw_blt (wpAny_items_cons (Tuple_ (wpAny_items_cons ?_))))
  refine meth_call_kw (nm_loc O (upd_ne (by decide) (upd_ne (by decide) rfl)) ((B0.keeps O.keep).gm_conv G O ?_))
  refine cw_fn_kw (o := _) (fd := _) rfl (wpAny_items_cons (nm_loc O (upd_ne (by decide) (upd_ne (by decide) rfl)) (wpAny_items_nil (evalAll_one (wpAny_Constant_bool ⟨⟨(G.keeps O.keep).K 83 _ rfl, rfl⟩, ?_⟩)))))
  refine conv_spec (n := n) (G.keeps O.keep) ok' hnm (sl sn) fun h₉ t₉ k₉ => ?_
  have O := O.keeps k₉
  refine wpAny_items_cons (meth_call (wpAny_Constant_str (GM.join (cw_blt (wpAny_items_cons (nm_loc O (upd_ne (by decide) (upd_same ..)) (wpAny_items_nil ?_)))))))
  refine call_join1 (O.get 1 rfl) ?_ (wpAny_items_nil ?_)
  · rw [show (PySem.Str.ofString "; ").length = 2 from by decide +kernel, sizeLine_eq]; omega
  refine o_newTuple O (show 2 ≤ sizeLine by decide) fun tup h₁₀ t₁₀ O k₁₀ => wpAny_items_nil ?_
  have O := (O.front (pre := [_, _, _]))
  refine o_append O (by rw [sizeLine_eq]; omega) fun h₁₁ t₁₁ O => ?_
  refine wpAny_execs_nil ?_
  have nd := O.nd
  have ne : tup ≠ lst := by
    rw [List.map_cons, List.nodup_cons] at nd
    intro z
    exact nd.1 (by rw [← z]; simp)
  refine k _ _ tup _ _ O.keep (O.get 0 rfl) (O.get 1 rfl) ?_ ne
  have := (O.own (tup, _) (List.mem_of_getElem? (i := 1) rfl)).2.2
  rw [Heap.hide_ne _ ne] at this
  exact this
end
end Mine
end

section
set_option maxRecDepth 100000
set_option Elab.async false
set_option maxHeartbeats 4000000
set_option linter.unusedVariables false
open PySem PySem.Sre PySem.Calls PySem.W PyProof.Rows
namespace Mine
/-- what is new above a heap -/
structure Fresh (h₁ : Heap) (cs : Cells) (h : Heap) : Prop where
  keep : Keeps h₁ h
  own : ∀ p ∈ cs, (∃ o, h.get? p.1 = some o ∧ p.2 o) ∧ h₁.get? p.1 = none
  nd : (cs.map (·.1)).Nodup
theorem Fresh.refl (h : Heap) : Fresh h [] h := ⟨fun _ _ e => e, fun _ h => (nomatch h), .nil⟩
theorem Fresh.push {h₁ h : Heap} {cs : Cells} (F : Fresh h₁ cs h) (o : Obj) {P : Obj → Prop} (hp : P o) (hf : o.isFreed = false := by rfl) : Fresh h₁ ((h.objs.size, P) :: cs) (h.push o) := by
  refine ⟨fun b x e => Heap.get?_push_of_some _ (F.keep _ _ e), fun p hp' => ?_, ?_⟩
  · cases hp' with
    | head =>
      refine ⟨⟨o, Heap.get?_push_size _ hf, hp⟩, ?_⟩
      cases q : h₁.get? h.objs.size with
      | none => rfl
      | some o => exact absurd (Heap.lt_size (F.keep _ _ q)) (Nat.lt_irrefl _)
    | tail _ hp' => obtain ⟨⟨o', e, q⟩, r⟩ := F.own p hp'; exact ⟨⟨o', Heap.get?_push_of_some _ e, q⟩, r⟩
  · rw [List.map_cons, List.nodup_cons]
    refine ⟨fun hm => ?_, F.nd⟩
    obtain ⟨p, hp1, hp2⟩ := List.mem_map.mp hm
    obtain ⟨o', e, _⟩ := (F.own p hp1).1
    have := Heap.lt_size e
    rw [hp2] at this
    exact Nat.lt_irrefl _ this
theorem Fresh.one {h₁ h : Heap} {a : Addr} {P : Obj → Prop} {o : Obj} (k : Keeps h₁ h) (n : h₁.get? a = none) (e : h.get? a = some o) (p : P o) : Fresh h₁ [(a, P)] h :=
  ⟨k, fun q hq => by rw [List.mem_singleton] at hq; subst hq; exact ⟨⟨o, e, p⟩, n⟩, by simp⟩
theorem Own.fresh {h₁ h : Heap} {C : Addr} {m : Loc} {cs : Cells} (O : Own h₁ C m cs h) : Fresh h₁ cs h := ⟨O.keep, fun p hp => ⟨(O.own p hp).1, (O.own p hp).2.2⟩, O.nd⟩
theorem Fresh.sub {h₁ h : Heap} {cs cs' : Cells} (F : Fresh h₁ cs h) (s : cs'.Sublist cs) : Fresh h₁ cs' h := ⟨F.keep, fun p hp => F.own p (s.subset hp), (s.map _).nodup F.nd⟩
theorem Fresh.keeps {h₁ h h' : Heap} {cs : Cells} (F : Fresh h₁ cs h) (k : Keeps h h') : Fresh h₁ cs h' :=
  ⟨Keeps.trans F.keep k, fun p hp => ⟨let ⟨o, e, q⟩ := (F.own p hp).1; ⟨o, k _ _ e, q⟩, (F.own p hp).2⟩, F.nd⟩
theorem Fresh.ext {h₁ h h' : Heap} {C : Addr} {cs : Cells} (F : Fresh h₁ cs h) (hs : Heap.ExtBut C h h') (hC : h₁.get? C = none) (hc : ∀ p ∈ cs, p.1 ≠ C) : Fresh h₁ cs h' :=
  ⟨fun b o e => hs b o (fun z => by rw [z, hC] at e; cases e) (F.keep _ _ e), fun p hp => ⟨let ⟨o, e, q⟩ := (F.own p hp).1; ⟨o, hs _ _ (hc p hp) e, q⟩, (F.own p hp).2⟩, F.nd⟩
theorem Own.join {h₀ h₁ h : Heap} {L : Addr} {m : Loc} {cs cs' : Cells} (O : Own h₀ L m cs h₁) (F : Fresh h₁ cs' h) : Own h₀ L m (cs' ++ cs) h := by
  have O' := O.keeps F.keep
  have out : ∀ p ∈ cs', ∀ o, h₁.get? p.1 = some o → False := fun p hp o e => by rw [(F.own p hp).2] at e; cases e
  refine ⟨O'.fr, fun p hp => ?_, ?_⟩
  · rcases List.mem_append.mp hp with hp | hp
    · refine ⟨(F.own p hp).1, fun z => ?_, ?_⟩
      · obtain ⟨o, _, _, ho, _⟩ := O.fr.ns
        exact out p hp _ (z ▸ ho)
      · cases q : h₀.get? p.1 with
        | none => rfl
        | some o => exact (out p hp _ (O.keep _ _ q)).elim
    · exact O'.own p hp
  · rw [List.map_append, List.nodup_append]
    refine ⟨F.nd, O.nd, fun a ha b hb z => ?_⟩
    obtain ⟨p, hp, rfl⟩ := List.mem_map.mp ha
    obtain ⟨q, hq, rfl⟩ := List.mem_map.mp hb
    obtain ⟨o, e, _⟩ := (O.own q hq).1
    exact out p hp o (by rw [z]; exact e)

section
variable {prog : Program} {w : World} {A : Around} {s : Shared} {env : Env} {E : Value → Shared → Prop}

abbrev compTest (prog : Program) (w : World) (A : Around) (ifs : List Expr) (cenv : Env) (Q : Bool → Shared → Prop) (E : Value → Shared → Prop) (s : Shared) : Prop :=
  wpAny (model prog w) A (forIn ifs true fun c r => if r = true then do let ok ← isTrue c cenv (eval c cenv); pure (ForInStep.yield ok) else pure (ForInStep.yield r)) Q E s

theorem comp_loop {n : Nat} {P : Nat → Obj → Prop} {side : Heap → Prop} {val : Nat → Value → Prop} (I : IterK prog w n P side val) {elt iter : Expr} {x : Str} {px : Pos} {ifs : List Expr} {scope : Scope} {pos : Pos} {h₁ : Heap} {cenv : Env} {it acc : Addr}
    (extra : Option Value → Cells) (Bd : Value → Loc → Prop) (J : Nat → List Value → Cells → Prop) {R : Result → Shared → Prop} (hh : A.handled = none)
    (hstore : ∀ u v m cs h t (K : Unit → Shared → Prop) (E' : Value → Shared → Prop), Own h₁ cenv.locals m (extra u ++ cs) h → (∀ h' t' m', Own h₁ cenv.locals m' (extra (some v) ++ cs) h' → Bd v m' → K () { s with heap := h', toks := t' }) → wpAny (model prog w) A (storeName cenv x v) K E' { s with heap := h, toks := t })
    (hside : ∀ k ys m cs h, J k ys cs → Own h₁ cenv.locals m cs h → side h) (hlen : ∀ k ys cs, J k ys cs → ys.length ≤ sizeLine)
    (turn : ∀ k v ys cs h t m, k < n → val k v → J k ys cs → Bd v m → Own h₁ cenv.locals m ((acc, isL ys) :: (it, P (k + 1)) :: (extra (some v) ++ cs)) h →
      compTest prog w A ifs cenv (fun ok s₃ => if ok = true then wpAny (model prog w) A (eval elt cenv) (fun y s₄ => ∃ h' t' m' cs', s₄ = { s with heap := h', toks := t' } ∧ Own h₁ cenv.locals m' ((acc, isL ys) :: (it, P (k + 1)) :: (extra (some v) ++ cs')) h' ∧ J (k + 1) (ys ++ [y]) cs') (fun _ _ => False) s₃
        else ∃ h' t' m' cs', s₃ = { s with heap := h', toks := t' } ∧ Own h₁ cenv.locals m' ((acc, isL ys) :: (it, P (k + 1)) :: (extra (some v) ++ cs')) h' ∧ J (k + 1) ys cs') (fun _ _ => False) { s with heap := h, toks := t })
    (fin : ∀ ys cs m u h t, J n ys cs → Own h₁ cenv.locals m ((acc, isL ys) :: (extra u ++ cs)) h → R (.ok .next) { s with heap := h, toks := t })
    {h₂ : Heap} {t₂ : Nat} {m : Loc} {cs : Cells} {u : Option Value} (O : Own h₁ cenv.locals m ((acc, isL []) :: (it, P 0) :: (extra u ++ cs)) h₂) (hJ : J 0 [] cs) :
    codeAny (model prog w) A (.compLoop (.ListComp elt [⟨.Name x px, iter, ifs, 0⟩] scope pos) 0 (.ref it) (.ref acc) cenv) R { s with heap := h₂, toks := t₂ } := by
  refine codeAny_compLoop_tests (I := fun r s' => ∃ k ys h' t' m' cs' u, s' = { s with heap := h', toks := t' } ∧ Own h₁ cenv.locals m' ((acc, isL ys) :: (it, P k) :: (extra u ++ cs')) h' ∧ J k ys cs' ∧ k ≤ n ∧ r = n + 1 - k) ?_ (n + 1)
    ⟨0, [], h₂, t₂, m, cs, u, rfl, O, hJ, Nat.zero_le _, rfl⟩
  rintro r s' ⟨k, ys, h', t', m', cs', u, rfl, O', hJ', hkn, hr⟩
  have hs0 : side h' := hside _ _ _ _ _ hJ' (O'.sub (.cons _ (.cons _ (List.sublist_append_right _ _))))
  have O₁ := O'.swap
  by_cases hlt : k < n
  · refine I.next hh hlt hs0 (O₁.own _ (.head _)).1 fun v h₃ t₃ hv hs₃ hp₃ => ?_
    have O₃ := (O₁.set hs₃ hp₃).swap
    have pm : ∀ e : Cells, (((acc, isL ys) :: (it, P (k + 1)) :: (e ++ cs')) : Cells).Perm (e ++ (acc, isL ys) :: (it, P (k + 1)) :: cs') := fun e =>
      (((List.perm_middle (l₁ := e) (a := (it, P (k + 1))) (l₂ := cs')).symm.cons (acc, isL ys)).trans (List.perm_middle (l₁ := e) (a := (acc, isL ys)) (l₂ := (it, P (k + 1)) :: cs')).symm)
    refine wpAny_assign_Name (hstore u v m' _ h₃ t₃ _ _ (O₃.perm (pm (extra u)).symm) fun h₄ t₄ m₄ O₄ hb => ?_)
    refine wpAny_mono (turn k v ys cs' h₄ t₄ m₄ hlt hv hJ' hb (O₄.perm (pm _))) (fun ok s₅ h₅ => ?_) fun _ _ x => x.elim
    by_cases hok : ok = true
    · rw [if_pos hok] at h₅ ⊢
      refine wpAny_mono h₅ (fun y s₆ h₆ => ?_) fun _ _ x => x.elim
      obtain ⟨h₆, t₆, m₆, cs₆, rfl, O₆, hJ₆⟩ := h₆
      refine o_append O₆ (hlen _ _ _ hJ') fun h₇ t₇ O₇ => ?_
      exact ⟨n + 1 - (k + 1), by omega, k + 1, _, h₇, t₇, m₆, cs₆, _, rfl, O₇, hJ₆, hlt, rfl⟩
    · rw [if_neg hok] at h₅ ⊢
      obtain ⟨h₆, t₆, m₆, cs₆, rfl, O₆, hJ₆⟩ := h₅
      exact ⟨n + 1 - (k + 1), by omega, k + 1, _, h₆, t₆, m₆, cs₆, _, rfl, O₆, hJ₆, hlt, rfl⟩
  · have hkn' : k = n := by omega
    subst hkn'
    refine I.stop hh hs0 (O₁.own _ (.head _)).1 fun h₃ t₃ hs₃ => ?_
    exact fin ys cs' m' u h₃ t₃ hJ' (O₁.ext hs₃)
end
end Mine
end

section
set_option maxRecDepth 100000
set_option Elab.async false
set_option maxHeartbeats 4000000
set_option linter.unusedVariables false
open PySem PySem.Sre PySem.Calls PySem.W PyProof.Rows
namespace Mine
def isCell (v : Option Value) (o : Obj) : Prop := o.data = .cell v
theorem isCell.is {h : Heap} {c : Addr} {v : Option Value} (x : ∃ o, h.get? c = some o ∧ isCell v o) : h.IsCell c v := x

/-- the start of a comprehension -/
structure Begun (h₁ : Heap) (it : Addr) (P : Obj → Prop) (cs : Cells) (h : Heap) : Prop where
  fresh : Fresh h₁ ((it, P) :: cs) h
  le : h₁.objs.size ≤ it
theorem Begun.size {h₁ h : Heap} {it : Addr} {P : Obj → Prop} {cs : Cells} (B : Begun h₁ it P cs h) : h₁.objs.size ≤ h.objs.size := by
  obtain ⟨o, e, _⟩ := (B.fresh.own _ (.head _)).1
  exact Nat.le_trans B.le (Nat.le_of_lt (Heap.lt_size e))
section
variable {prog : Program} {w : World} {A : Around} {s : Shared} {env : Env} {E : Value → Shared → Prop}

theorem comp_run {n : Nat} {P : Nat → Obj → Prop} {side : Heap → Prop} {val : Nat → Value → Prop} (I : IterK prog w n P side val) {elt iter : Expr} {x : Str} {px : Pos} {ifs : List Expr} {scope : Scope} {cl : List (Str × Addr)} {pos : Pos}
    (J : Nat → List Value → Cells → Prop) {RR : Value → Addr → Result → Shared → Prop} {it : Addr} {h₂ : Heap} {t₂ : Nat} {cs : Cells}
    (hh : A.handled = none) (hcell : ∀ y ∈ scope.names, y.2 ≠ .cell) (hkind : scope.kind = .function) (hx : scope.names.lookup x = some .local)
    (hside : ∀ C k ys m cs h, J k ys cs → Own s.heap C m cs h → side h) (hlen : ∀ k ys cs, J k ys cs → ys.length ≤ sizeLine)
    (turn : ∀ C it acc k v ys cs h t m, k < n → val k v → J k ys cs → m x = some v → Own s.heap C m ((acc, isL ys) :: (it, P (k + 1)) :: cs) h →
      compTest prog w A ifs (compEnvC scope cl C env) (fun ok s₃ => if ok = true then wpAny (model prog w) A (eval elt (compEnvC scope cl C env)) (fun y s₄ => ∃ h' t' m' cs', s₄ = { s with heap := h', toks := t' } ∧ Own s.heap C m' ((acc, isL ys) :: (it, P (k + 1)) :: cs') h' ∧ J (k + 1) (ys ++ [y]) cs') (fun _ _ => False) s₃
        else ∃ h' t' m' cs', s₃ = { s with heap := h', toks := t' } ∧ Own s.heap C m' ((acc, isL ys) :: (it, P (k + 1)) :: cs') h' ∧ J (k + 1) ys cs') (fun _ _ => False) { s with heap := h, toks := t })
    (fin : ∀ C acc m ys cs h t, J n ys cs → Own s.heap C m ((acc, isL ys) :: cs) h → RR (.ref acc) C (.ok .next) { s with heap := h, toks := t })
    (B : Begun s.heap it (P 0) cs h₂) (hJ : J 0 [] cs) :
    wpAny (model prog w) A (newList []) (fun acc s₃ => wpAny (model prog w) A (newFunctionEnv scope env.globals cl [] env.qual none .none (some env)) (fun cenv s₄ =>
      codeAny (model prog w) A (.compStart (.ListComp elt [⟨.Name x px, iter, ifs, 0⟩] scope pos) 0 (.ref it) acc { cenv with scope := relabel scope env }) (RR acc cenv.locals) s₄) E s₃) E { s with heap := h₂, toks := t₂ } := by
  have F := B.fresh.push { cls := .type "list", dict := none, data := .seq ([] : List Value).toArray } (P := isL []) ⟨0, rfl⟩
  refine wpAny_newObj_type (wpAny_newFunctionEnv hcell (by intro y hy; simp at hy) (fun h₃ hns₃ hsb₃ => ?_) hkind)
  dsimp only at hns₃ hsb₃ ⊢
  generalize hH : h₂.push { cls := .type "list", dict := none, data := .seq ([] : List Value).toArray } = H at hns₃ hsb₃ ⊢ F
  have hk : Keeps H h₃ := fun b o e => hsb₃.extBut b o (Nat.ne_of_lt (Heap.lt_size e)) (Heap.get?_push_of_some _ e)
  have hle : s.heap.objs.size ≤ H.objs.size := by rw [← hH, Heap.size_push]; exact Nat.le_succ_of_le B.size
  have O : Own s.heap H.objs.size (fun _ => none) ((h₂.objs.size, isL []) :: (it, P 0) :: cs) h₃ :=
    ⟨⟨by simpa using hns₃, Keeps.trans F.keep hk, hle⟩, fun p hp => ⟨let ⟨o, e, q⟩ := (F.own p hp).1; ⟨o, hk _ _ e, q⟩, fun z => by
      obtain ⟨o, e, _⟩ := (F.own p hp).1
      exact Nat.ne_of_lt (Heap.lt_size e) z, (F.own p hp).2⟩, F.nd⟩
  have hlx : (compEnvC scope cl H.objs.size env).kindOf x = some .local := lookup_relabel_local hx
  have loop : ∀ t₃, codeAny (model prog w) A (.compLoop (.ListComp elt [⟨.Name x px, iter, ifs, 0⟩] scope pos) 0 (.ref it) (.ref h₂.objs.size) (compEnvC scope cl H.objs.size env)) (RR (.ref h₂.objs.size) H.objs.size) { s with heap := h₃, toks := t₃ } := fun t₃ =>
    comp_loop (cenv := compEnvC scope cl H.objs.size env) I (fun _ => []) (fun v m => m x = some v) J hh
      (fun u v m cs h t K E' O h => st_loc O (fun h' t' O' => h h' t' _ O' (upd_same ..)) rfl (by exact hkind) hlx)
      (fun k ys m cs h hJ O => hside _ k ys m cs h hJ O) hlen (fun k v ys cs h t m hk hv hJ hb O => turn _ _ _ k v ys cs h t m hk hv hJ hb O)
      (fun ys cs m u h t hJ O => fin _ _ m ys cs h t hJ O) (u := none) O hJ
  exact codeAny_compStart_list (loop _) (I.self (O.get 1 rfl) (loop _))

theorem comp_eval {n : Nat} {P : Nat → Obj → Prop} {side : Heap → Prop} {val : Nat → Value → Prop} (I : IterK prog w n P side val) {elt iter : Expr} {x : Str} {px : Pos} {ifs : List Expr} {scope : Scope} {cl : List (Str × Addr)} {pos : Pos} {Q : Value → Shared → Prop}
    (J : Nat → List Value → Cells → Prop) (hh : A.handled = none)
    (init : wpAny (model prog w) A (eval iter env) (fun xv s₁ => wpAny (model prog w) A (pyIter xv) (fun itv s₂ => ∃ it h₂ t₂ cs, itv = .ref it ∧ s₂ = { s with heap := h₂, toks := t₂ } ∧ Begun s.heap it (P 0) cs h₂ ∧ J 0 [] cs) (fun _ _ => False) s₁) (fun _ _ => False) s)
    (hside : ∀ C k ys m cs h, J k ys cs → Own s.heap C m cs h → side h) (hlen : ∀ k ys cs, J k ys cs → ys.length ≤ sizeLine)
    (turn : ∀ C it acc k v ys cs h t m, k < n → val k v → J k ys cs → m x = some v → Own s.heap C m ((acc, isL ys) :: (it, P (k + 1)) :: cs) h →
      compTest prog w A ifs (compEnvC scope cl C env) (fun ok s₃ => if ok = true then wpAny (model prog w) A (eval elt (compEnvC scope cl C env)) (fun y s₄ => ∃ h' t' m' cs', s₄ = { s with heap := h', toks := t' } ∧ Own s.heap C m' ((acc, isL ys) :: (it, P (k + 1)) :: cs') h' ∧ J (k + 1) (ys ++ [y]) cs') (fun _ _ => False) s₃
        else ∃ h' t' m' cs', s₃ = { s with heap := h', toks := t' } ∧ Own s.heap C m' ((acc, isL ys) :: (it, P (k + 1)) :: cs') h' ∧ J (k + 1) ys cs') (fun _ _ => False) { s with heap := h, toks := t })
    (fin : ∀ D ys cs h t, J n ys cs → Fresh s.heap ((D, isL ys) :: cs) h → Q (.ref D) { s with heap := h, toks := t })
    (hclos : closureFor scope env = pure cl := by rfl) (hcell : ∀ y ∈ scope.names, y.2 ≠ .cell := by decide) (hkind : scope.kind = .function := by rfl)
    (hnames : ∀ y ∈ scope.names, y.2 = .local → scope.names.lookup y.1 = some .local := by decide) (hx : scope.names.lookup x = some .local := by rfl)
    (hs : ∀ x, foldedSetIterable iter env x = pure x := by intro _; rfl) :
    wpAny (model prog w) A (eval (.ListComp elt [⟨.Name x px, iter, ifs, 0⟩] scope pos) env) Q E s := by
  rw [eval_ListComp]
  refine wpAny_comprehension_free (use := none) rfl hs hclos hkind hnames (wpAny_mono init (fun xv s₁ h₁ => wpAny_mono h₁ (fun it s₂ h₂ => ?_) fun _ _ e => e.elim) fun _ _ e => e.elim)
  obtain ⟨it, h₂, t₂, cs, rfl, rfl, B, hJ⟩ := h₂
  refine comp_run (RR := fun acc C => compPost (model prog w) A E none Q acc C) I J hh hcell hkind hx hside hlen turn (fun C acc m ys cs h t hJ O => ?_) B hJ
  refine ⟨m, O.fr.ns, fun h' hs' => fin _ _ _ _ _ hJ (O.fresh.ext hs'.extBut ?_ fun p hp => (O.own p hp).2.1)⟩
  exact Heap.get?_none_of_le O.fr.above

theorem comp_assign {n : Nat} {P : Nat → Obj → Prop} {side : Heap → Prop} {val : Nat → Value → Prop} (I : IterK prog w n P side val) {elt iter : Expr} {x y : Str} {px py : Pos} {ifs : List Expr} {scope : Scope} {cl : List (Str × Addr)} {pos spos : Pos} {Q : Flow → Shared → Prop}
    {h₀ : Heap} {L : Addr} {m : Loc} {cs₀ : Cells} (O : Own h₀ L m cs₀ s.heap)
    (J : Nat → List Value → Cells → Prop) (hh : A.handled = none)
    (init : wpAny (model prog w) A (eval iter env) (fun xv s₁ => wpAny (model prog w) A (pyIter xv) (fun itv s₂ => ∃ it h₂ t₂ cs, itv = .ref it ∧ s₂ = { s with heap := h₂, toks := t₂ } ∧ Begun s.heap it (P 0) cs h₂ ∧ J 0 [] cs) (fun _ _ => False) s₁) (fun _ _ => False) s)
    (hside : ∀ C k ys m cs h, J k ys cs → Own s.heap C m cs h → side h) (hlen : ∀ k ys cs, J k ys cs → ys.length ≤ sizeLine)
    (turn : ∀ C it acc k v ys cs h t m, k < n → val k v → J k ys cs → m x = some v → Own s.heap C m ((acc, isL ys) :: (it, P (k + 1)) :: cs) h →
      compTest prog w A ifs (compEnvC scope cl C env) (fun ok s₃ => if ok = true then wpAny (model prog w) A (eval elt (compEnvC scope cl C env)) (fun y s₄ => ∃ h' t' m' cs', s₄ = { s with heap := h', toks := t' } ∧ Own s.heap C m' ((acc, isL ys) :: (it, P (k + 1)) :: cs') h' ∧ J (k + 1) (ys ++ [y]) cs') (fun _ _ => False) s₃
        else ∃ h' t' m' cs', s₃ = { s with heap := h', toks := t' } ∧ Own s.heap C m' ((acc, isL ys) :: (it, P (k + 1)) :: cs') h' ∧ J (k + 1) ys cs') (fun _ _ => False) { s with heap := h, toks := t })
    (fin : ∀ D ys cs h t, J n ys cs → Own h₀ L (upd m y (.ref D)) ((D, isL ys) :: (cs ++ cs₀)) h → Q .next { s with heap := h, toks := t })
    (hsw : swapsWith (.ListComp elt [⟨.Name x px, iter, ifs, 0⟩] scope pos) (some (.Name y py)) spos.line env = pure true := by rfl)
    (hclos : closureFor scope env = pure cl := by rfl) (hcell : ∀ y ∈ scope.names, y.2 ≠ .cell := by decide) (hkind : scope.kind = .function := by rfl)
    (hnames : ∀ y ∈ scope.names, y.2 = .local → scope.names.lookup y.1 = some .local := by decide) (hx : scope.names.lookup x = some .local := by rfl)
    (hL : env.locals = L := by rfl) (hek : env.scope.kind = .function := by rfl) (hy : env.kindOf y = some .local := by rfl)
    (hs : ∀ x, foldedSetIterable iter env x = pure x := by intro _; rfl) :
    wpAny (model prog w) A (exec (.Assign [.Name y py] (.ListComp elt [⟨.Name x px, iter, ifs, 0⟩] scope pos) spos) env) Q E s := by
  rw [exec_Assign_Name_used _ _ _ _ hsw]
  refine wpAny_bind (wpAny_standAt (wpAny_bind ?_))
  show wpAny _ A (do let _ ← comprehension (.ListComp elt [⟨.Name x px, iter, ifs, 0⟩] scope pos) scope env _ (newList []) false (eval iter env) (some (assign (.Name y py) env))) _ _ s
  refine wpAny_bind (wpAny_mono (wpAny_comprehension_free (use := some (assign (.Name y py) env)) (Q := fun _ s' => Q .next s') rfl hs hclos hkind hnames
    (wpAny_mono init (fun xv s₁ h₁ => wpAny_mono h₁ (fun it s₂ h₂ => ?_) fun _ _ e => e.elim) fun _ _ e => e.elim)) (fun _ s' hq => wpAny_pure (wpAny_pure hq)) fun _ _ e => e)
  obtain ⟨it, h₂, t₂, cs, rfl, rfl, B, hJ⟩ := h₂
  refine comp_run (RR := fun acc C => compPost (model prog w) A E (some (assign (.Name y py) env)) (fun _ s' => Q .next s') acc C) I J hh hcell hkind hx hside hlen turn (fun C acc m₂ ys cs h t hJ O₂ => ?_) B hJ
  obtain ⟨oC, esC, epC, hC, rC⟩ := O₂.fr.ns
  have hCn : s.heap.get? C = none := Heap.get?_none_of_le O₂.fr.above
  have F : Fresh s.heap ((C, fun o => o = oC) :: (acc, isL ys) :: cs) h := by
    refine ⟨O₂.keep, fun p hp => ?_, ?_⟩
    · cases hp with
      | head => exact ⟨⟨oC, hC, rfl⟩, hCn⟩
      | tail _ hp => exact O₂.fresh.own p hp
    · rw [List.map_cons, List.nodup_cons]
      refine ⟨fun hm => ?_, O₂.nd⟩
      obtain ⟨p, h1, h2⟩ := List.mem_map.mp hm
      exact (O₂.own p h1).2.1 h2
  have O₃ := O.join F
  show wpAny _ A (assign (.Name y py) env (.ref acc)) _ _ _
  refine wpAny_assign_Name (st_loc O₃ (fun h₄ t₄ O₄ => ?_) hL hek hy)
  obtain ⟨o', e', rfl⟩ := O₄.get 0 rfl
  have hns : h₄.Ns C m₂ := ⟨o', esC, epC, e', rC⟩
  exact ⟨m₂, hns, fun h₅ hs₅ => fin _ _ _ _ _ hJ (O₄.ext hs₅.extBut)⟩
end
end Mine
end

section
set_option maxRecDepth 100000
set_option Elab.async false
set_option maxHeartbeats 4000000
set_option linter.unusedVariables false
open PySem PySem.Sre PySem.Calls PySem.W PyProof.Rows
namespace Mine
/-- a list, whatever its object keeps beside -/
def isW (its : List Value) (o : Obj) : Prop := o.cls = .type "list" ∧ ∃ n, o.data = .seq its.toArray n
theorem isL.w {its : List Value} {o : Obj} (x : isL its o) : isW its o := by obtain ⟨n, rfl⟩ := x; exact ⟨rfl, n, rfl⟩
theorem isW.list {h : Heap} {a : Addr} {its : List Value} (x : ∃ o, h.get? a = some o ∧ isW its o) : h.IsList a its.toArray := let ⟨o, e, c, n, q⟩ := x; ⟨o, e, c, n, q⟩
theorem isTup.is {h : Heap} {a : Addr} {its : List Value} (x : ∃ o, h.get? a = some o ∧ isTup its o) : IsTup h a its.toArray := let ⟨_, e, n, q⟩ := x; ⟨_, e, by rw [q], n, by rw [q]⟩
section
variable {prog : Program} {w : World} {A : Around} {s : Shared} {env : Env} {E : Value → Shared → Prop} {h₀ : Heap} {L : Addr} {m : Loc} {cs : Cells}

/-- the road after both halves of a subscription are there; the base may be a temporary -/
theorem tail_any {value slice : Expr} {o i : Value} {T id : String} {Q : Value → Shared → Prop} (hT : s.TypeIs o T) (hl : typeLookup (.type T) "__getitem__" = pure (some (.builtin id)))
    (h : wpAny (model prog w) A (getItem o i) Q E s) (hs : subscripted slice false o i = operate [o, i] (getItem o i)) : wpAny (model prog w) A (subscriptTail value slice o i) Q E s := by
  have fin : wpAny (model prog w) A (subscripted slice false o i) (fun r s₃ => wpAny (model prog w) A (letTemporaryGo value o r >>= fun _ => pure r) Q E s₃) E s := by
    rw [hs]
    exact wpAny_operating (wpAny_mono h (fun r s₃ h₃ => wpAny_bind (wpAny_letTemporaryGo (wpAny_pure h₃))) fun _ _ x => x)
  show wpAny _ A (getitemInPython o >>= fun b => subscripted slice b o i >>= fun r => letTemporaryGo value o r >>= fun _ => pure r) Q E s
  refine wpAny_bind ?_
  rw [getitemInPython_of_ne hT.not_modules]
  exact wpAny_bind (wpAny_specialOf hT hl (wpAny_pure (wpAny_bind fin)))
theorem sub_list {value slice : Expr} {pos : Pos} {Q : Value → Shared → Prop}
    (h : wpAny (model prog w) A (eval value env) (fun o s₁ => wpAny (model prog w) A (eval slice env) (fun i s₂ => ∃ l its k t x, o = .ref l ∧ i = .int k t ∧ (∃ ob, s₂.heap.get? l = some ob ∧ isW its ob) ∧ 0 ≤ k ∧ k < 2 ^ 62 ∧ its[k.toNat]? = some x ∧ Q x s₂) E s₁) E s)
    (hs : ∀ o i, subscripted slice false o i = operate [o, i] (getItem o i) := by intro _ _; with_unfolding_all rfl) :
    wpAny (model prog w) A (eval (.Subscript value slice pos) env) Q E s := by
  refine Subscript_ (wpAny_mono h (fun o s₁ h₁ => wpAny_mono h₁ (fun i s₂ h₂ => ?_) fun _ _ x => x) fun _ _ x => x)
  obtain ⟨l, its, k, t, x, rfl, rfl, hl, h0, h1, hx, hq⟩ := h₂
  have hl' := isW.list hl
  exact tail_any hl'.typeIs slot_list_getitem.lookup (wpAny_getItem_list hl' h0 (by omega) (by simpa using hx) hq) (hs _ _)
theorem sub_tup {value slice : Expr} {pos : Pos} {Q : Value → Shared → Prop}
    (h : wpAny (model prog w) A (eval value env) (fun o s₁ => wpAny (model prog w) A (eval slice env) (fun i s₂ => ∃ l its k t x j, o = .ref l ∧ i = .int k t ∧ (∃ ob, s₂.heap.get? l = some ob ∧ isTup its ob) ∧ -(2 ^ 62) ≤ k ∧ k < 2 ^ 62 ∧ seqIndex? k its.length = some j ∧ its[j]? = some x ∧ Q x s₂) E s₁) E s)
    (hs : ∀ o i, subscripted slice false o i = operate [o, i] (getItem o i) := by intro _ _; with_unfolding_all rfl) :
    wpAny (model prog w) A (eval (.Subscript value slice pos) env) Q E s := by
  refine Subscript_ (wpAny_mono h (fun o s₁ h₁ => wpAny_mono h₁ (fun i s₂ h₂ => ?_) fun _ _ x => x) fun _ _ x => x)
  obtain ⟨l, its, k, t, x, j, rfl, rfl, hl, h0, h1, hj, hx, hq⟩ := h₂
  have hl' := isTup.is hl
  exact tail_any hl'.typeIs slot_tuple_getitem.lookup (PyProof.Rows.getItem_tuple hl' (by omega) (by omega) (by simpa using hj) (by simpa using hx) hq) (hs _ _)
theorem sub_str {value slice : Expr} {pos : Pos} {Q : Value → Shared → Prop}
    (h : wpAny (model prog w) A (eval value env) (fun o s₁ => wpAny (model prog w) A (eval slice env) (fun i s₂ => ∃ x u k t c, o = .str x u ∧ i = .int k t ∧ -(2 ^ 62) ≤ k ∧ k < 2 ^ 62 ∧ (seqIndex? k x.length).bind (x.cps[·]?) = some c ∧ ∀ t' tk, Q (.str ⟨#[c]⟩ tk) { s₂ with toks := t' }) E s₁) E s)
    (hs : ∀ o i, subscripted slice false o i = operate [o, i] (getItem o i) := by intro _ _; with_unfolding_all rfl) :
    wpAny (model prog w) A (eval (.Subscript value slice pos) env) Q E s := by
  refine Subscript_ (wpAny_mono h (fun o s₁ h₁ => wpAny_mono h₁ (fun i s₂ h₂ => ?_) fun _ _ x => x) fun _ _ x => x)
  obtain ⟨x, u, k, t, c, rfl, rfl, h0, h1, hc, hq⟩ := h₂
  exact tail_any (typeIs_str _ x u) slot_str_getitem.lookup (PyProof.Rows.getItem_str (by simp; omega) hc (hq _ _)) (hs _ _)

-- cells
theorem InCallC.own {s₀ s₁ : Shared} {L : Addr} {m cm : Loc} {cl : List (Str × Addr)} (x : InCallC s₀ L m cl cm s₁) (hd : ∀ p ∈ cl, cl.lookup p.1 = some p.2) : Own s₀.heap L m (cl.map fun p => (p.2, isCell (cm p.1))) s₁.heap := by
  refine ⟨⟨x.toInCall.ns, x.toInCall.keep, x.toInCall.fresh⟩, fun p hp => ?_, ?_⟩
  · obtain ⟨q, hq, rfl⟩ := List.mem_map.mp hp
    have ha := x.above _ _ hq
    exact ⟨x.cell _ _ (hd q hq), Nat.ne_of_gt ha, Heap.get?_none_of_le (Nat.le_trans x.toInCall.fresh (Nat.le_of_lt ha))⟩
  · rw [List.map_map]
    exact (List.pairwise_map.mpr x.apart)
theorem call_c {f cd : Addr} {o oc : Obj} {fd : FuncData} {body : List Stmt} {vs : Array Value} {tk : Tok} {vals : List Value} {binds : List (Str × Value)} {Q : Value → Shared → Prop} {n : Nat}
    (G : Gl w s.heap) (ok : Ok A (n + 1)) (hf : (Mine.hd.heap_39 w.params).lookup f = some o) (hdata : o.data = .func fd) (hc : (Mine.hd.heap_39 w.params).lookup cd = some oc) (hcd : fd.code = .ref cd) (hoc : oc.data = .fields vs)
    (hq : vs[1]? = some (.str fd.qualname tk)) (hbody : fd.body = .stmts body) (hbind : bindArgs fd ⟨vals, []⟩ = pure binds) (hclo : fd.closure = [])
    (hkind : ∀ x ∈ binds, fd.scope.names.lookup x.1 = some .local ∨ (fd.scope.names.lookup x.1 = some .cell ∧ ((cellsFrom (s.heap.objs.size + 1) fd.scope.names []).lookup x.1).isSome = true))
    (hd : ∀ L, ∀ p ∈ cellsFrom L fd.scope.names [], (cellsFrom L fd.scope.names []).lookup p.1 = some p.2)
    (hco : fd.scope.isCoroutine = false) (hgen : fd.scope.isGenerator = false) (hk : fd.scope.kind = .function)
    (h : ∀ h₁ t₁, Ok (A.deeper (callEnvC fd s.heap.objs.size f)) n → Own s.heap s.heap.objs.size (bindL (callEnvC fd s.heap.objs.size f).kindOf binds fun _ => none) ((cellsFrom (s.heap.objs.size + 1) fd.scope.names []).map fun p => (p.2, isCell (bindC (callEnvC fd s.heap.objs.size f).kindOf binds (fun _ => none) p.1))) h₁ →
      wpAny (model prog w) (A.deeper (callEnvC fd s.heap.objs.size f)) (execs body (callEnvC fd s.heap.objs.size f))
      (fun fl s' => Q (match fl with | .ret v => v | _ => .none) s') (fun _ _ => False) { s with heap := h₁, toks := t₁ }) :
    wpAny (model prog w) A (call (.ref f) vals []) Q E s := by
  refine wpAny_call (codeAny_call_cells ok.room (G.K f _ hf) hdata G.nolim ⟨cd, oc, vs, tk, hcd, G.K cd _ hc, hoc, hq⟩ hbody hbind hclo hkind (fun s₁ X => ?_) hco hgen hk)
  obtain ⟨h₁, t₁, rfl, _⟩ := X.done
  exact wpAny_mono (h h₁ t₁ (ok.deeper _) (InCallC.own X (hd _))) (fun fl s' q => q) fun _ _ x => x.elim

theorem nm_cell {x : Str} {pos : Pos} {v : Value} {c : Addr} {Q : Value → Shared → Prop} (hv : ∃ o, s.heap.get? c = some o ∧ isCell (some v) o) (h : Q v s)
    (hc : env.cells.lookup x = some c := by rfl) (hk : env.scope.kind = .function := by rfl) (hl : env.kindOf x = some .cell := by rfl) (hd : (x == ("__debug__" : Str)) = false := by decide) :
    wpAny (model prog w) A (eval (.Name x pos) env) Q E s := wpAny_Name (wpAny_loadName_cell hk hl hc hv h) hd
theorem nm_free {x : Str} {pos : Pos} {v : Value} {c : Addr} {Q : Value → Shared → Prop} (hv : ∃ o, s.heap.get? c = some o ∧ isCell (some v) o) (h : Q v s)
    (hc : env.cells.lookup x = some c := by rfl) (hk : env.scope.kind = .function := by rfl) (hl : env.kindOf x = some .free := by rfl) (hd : (x == ("__debug__" : Str)) = false := by decide) (hd' : (x == ("__classdict__" : Str)) = false := by decide) :
    wpAny (model prog w) A (eval (.Name x pos) env) Q E s := wpAny_Name (wpAny_loadName_free hk hl hc hv h hd') hd
theorem st_cell {x : Str} {v : Value} {u : Option Value} {c : Addr} {Q : Unit → Shared → Prop} (O : Own h₀ L m ((c, isCell u) :: cs) s.heap)
    (h : ∀ h', Own h₀ L m ((c, isCell (some v)) :: cs) h' → Q () { s with heap := h' })
    (hc : env.cells.lookup x = some c := by rfl) (hk : env.scope.kind = .function := by rfl) (hl : env.kindOf x = some .cell := by rfl) :
    wpAny (model prog w) A (storeName env x v) Q E s :=
  wpAny_storeName_cell hk hl hc (O.own _ (.head _)).1 fun h' hv hs => h h' (O.set hs hv)
end
end Mine
end

section
set_option maxRecDepth 100000
set_option Elab.async false
set_option maxHeartbeats 4000000
set_option linter.unusedVariables false
open PySem PySem.Sre PySem.Calls PySem.W PyProof.Rows
namespace Mine
def Row (h : Heap) (v : Value) (p : Str × Str) : Prop := ∃ a u1 u2, v = .ref a ∧ ∃ o, h.get? a = some o ∧ isTup [.str p.1 u1, .str p.2 u2] o
structure RowsAt (h : Heap) (its : List Value) (ps : List (Str × Str)) : Prop where
  len : its.length = ps.length
  row : ∀ (k : Nat) (v : Value) (p : Str × Str), its[k]? = some v → ps[k]? = some p → Row h v p
theorem RowsAt.keeps {h h' : Heap} {its : List Value} {ps : List (Str × Str)} (R : RowsAt h its ps) (k : Keeps h h') : RowsAt h' its ps :=
  ⟨R.len, fun i v p hv hp => let ⟨a, u1, u2, e, o, ho, q⟩ := R.row i v p hv hp; ⟨a, u1, u2, e, o, k _ _ ho, q⟩⟩
def told (ps : List (Str × Str)) (nm : Str) : List Str := (ps.filter fun p => Txt.lower p.1 == Txt.lower nm).map (·.2)
section
variable {prog : Program} {w : World} {A : Around} {s : Shared} {E : Value → Shared → Prop}

theorem all_spec {n : Nat} {Q : Value → Shared → Prop} {x lst : Addr} {its : List Value} {ps : List (Str × Str)} {nm : Str} {tn : Tok} (G : Gl w s.heap) (ok : Ok A (n + 1 + 1)) (B : Book s.heap x lst) (hl : ∃ o, s.heap.get? lst = some o ∧ isL its o) (hr : RowsAt s.heap its ps)
    (hln : ps.length ≤ 1000) (hns : ∀ p ∈ ps, p.1.length ≤ 1000) (hnm : nm.length ≤ 1000) (hcl : ∀ c ∈ (Txt.lower nm).cps.toList, clN c = false)
    (k : ∀ h' t' D ys, Keeps s.heap h' → s.heap.get? D = none → (∃ o, h'.get? D = some o ∧ isL ys o) → StrsAre ys (told ps nm) → Q (.ref D) { s with heap := h', toks := t' }) :
    wpAny (model prog w) A (call (.ref 121) [.ref x, .str nm tn]) Q E s := by
  refine call_c (binds := [("self", .ref x), ("name", .str nm tn)]) G ok rfl rfl rfl rfl rfl rfl rfl rfl rfl ?_ ?_ rfl rfl rfl fun h₁ t₁ ok' O => ?_
  · intro p hp
    simp only [List.mem_cons, List.not_mem_nil, or_false] at hp
    rcases hp with rfl | rfl
    · exact .inl rfl
    · exact .inr ⟨rfl, rfl⟩
  · intro L p hp
    have : p = (Str.ofString "name", L) := by simpa [cellsFrom] using hp
    subst this; rfl
  have O : Own s.heap s.heap.objs.size (fun y => if y = "self" then some (.ref x) else none) [(s.heap.objs.size + 1, isCell (some (.str nm tn)))] h₁ := O
  refine wpAny_execs_cons (wpAny_Assign_Name ?_)
  refine meth_call_kw (nm_loc O (if_pos rfl) ((B.keeps O.keep).gm_conv G O ?_))
  obtain ⟨o83, fd83, hK83, hd83⟩ : ∃ o fd, (Mine.hd.heap_39 w.params).lookup 83 = some o ∧ o.data = .func fd := ⟨_, _, rfl, rfl⟩
  refine cw_fn_kw (o := o83) (fd := fd83) rfl (wpAny_items_cons (meth_call (nm_cell (c := s.heap.objs.size + 1) (O.get 0 rfl) (GM.lower (cw_blt (wpAny_items_nil (SCL.lower (by omega) ?_)))))))
  intro hlen
  refine wpAny_items_nil (evalAll_one (wpAny_Constant_bool ⟨⟨(G.keeps O.keep).K 83 _ hK83, hd83⟩, ?_⟩))
  refine conv_spec (n := n) (G.keeps O.keep) ok' hcl (Nat.le_trans hlen (by rw [sizeLine_eq]; omega)) fun h₂ t₂ k₂ => ?_
  have O := O.keeps k₂
  refine st_cell O fun h₃ O => ?_
  refine wpAny_execs_cons (wpAny_Return_some ?_)
  have Bk := B.keeps O.keep
  have hl3 : ∃ o, h₃.get? lst = some o ∧ isL its o := let ⟨o, e, q⟩ := hl; ⟨o, O.keep _ _ e, q⟩
  refine comp_eval (iterL lst its) (fun k ys cs => cs = [] ∧ k ≤ its.length ∧ ys.length ≤ k ∧ StrsAre ys (told (ps.take k) nm)) ok'.hd ?_ ?_ ?_ ?_ ?_
  · refine Attribute_Name_ (nm_loc O (if_pos rfl) (Bk.attr G O fun t₄ => ?_))
    refine wpAny_pyIter_list (isL.list hl3) ?_
    exact ⟨_, _, _, [], rfl, rfl, ⟨(Fresh.refl _).push _ (P := isLI lst 0) ⟨rfl, rfl⟩, Nat.le_refl _⟩, rfl, Nat.zero_le _, Nat.le_refl _, by simpa [told] using StrsAre.nil⟩
  · intro C k ys m cs h _ O'
    obtain ⟨o, e, q⟩ := hl3
    exact isL.list ⟨o, O'.keep _ _ e, q⟩
  · rintro k ys cs ⟨_, h1, h2, _⟩
    have := hr.len
    rw [sizeLine_eq]; omega
  · rintro C it acc k v ys cs h t m hk hv ⟨rfl, hk', hy, hS⟩ hm O'
    obtain ⟨p, hp⟩ : ∃ p, ps[k]? = some p := ⟨_, List.getElem?_eq_getElem (by rw [← hr.len]; exact hk)⟩
    have hpm := List.mem_of_getElem? hp
    obtain ⟨a, u1, u2, rfl, o, ho, hT⟩ := (hr.keeps (Keeps.trans O.keep O'.keep)).row k v p hv hp
    have step : told (ps.take (k + 1)) nm = told (ps.take k) nm ++ (if Txt.lower p.1 == Txt.lower nm then [p.2] else []) := by
      unfold told
      rw [List.take_add_one, hp, List.filter_append, List.map_append]
      congr 1
      simp only [Option.toList_some, List.filter_cons, List.filter_nil]
      split <;> simp
    have hlow : Txt.lower p.1 = Txt.lower p.1 := rfl
    refine wpAny_tests_one (wpAny_isTrue_Compare1 (meth_call (sub_tup (nm_loc O' hm (wpAny_Constant_int ?_)))))
    refine ⟨a, _, 0, _, _, 0, rfl, rfl, ⟨o, ho, hT⟩, by decide, by decide, rfl, rfl, ?_⟩
    refine GM.lower (cw_blt (wpAny_items_nil (SCL.lower (Nat.le_trans (hns p hpm) (by decide)) ?_)))
    intro _
    refine nm_cell (c := s.heap.objs.size + 1) (let ⟨o, e, q⟩ := O.get 0 rfl; ⟨o, O'.keep _ _ e, q⟩) (PyProof.Rows.eq_str (wpAny_truthy_bool ?_))
    by_cases he : (Txt.lower p.1 == Txt.lower nm) = true
    · rw [he] at step ⊢
      refine ite_pos rfl ?_
      refine sub_tup (nm_loc O' hm (wpAny_Constant_int ?_))
      refine ⟨a, _, 1, _, _, 1, rfl, rfl, ⟨o, ho, hT⟩, by decide, by decide, rfl, rfl, ?_⟩
      refine ⟨_, _, m, [], rfl, O', rfl, hk, by simp; omega, ?_⟩
      rw [step]
      exact hS.append' (.cons _ _ .nil)
    · have he : (Txt.lower p.1 == Txt.lower nm) = false := by simpa using he
      rw [he] at step ⊢
      refine ite_neg (by decide) ?_
      refine ⟨_, _, m, [], rfl, O', rfl, hk, by omega, ?_⟩
      rw [step]
      simpa using hS
  · rintro D ys cs h t ⟨rfl, _, _, hS⟩ F
    have hn : s.heap.get? D = none := by
      cases q : s.heap.get? D with
      | none => rfl
      | some o => have := (F.own _ (.head _)).2; rw [O.keep _ _ q] at this; cases this
    refine k _ _ D ys (Keeps.trans O.keep F.keep) hn (F.own _ (.head _)).1 ?_
    rw [List.take_of_length_le (by rw [hr.len]; exact Nat.le_refl _)] at hS
    exact hS
end
end Mine
end

section
set_option maxRecDepth 100000
set_option Elab.async false
set_option maxHeartbeats 4000000
set_option linter.unusedVariables false
open PySem PySem.Sre PySem.Calls PySem.W PyProof.Rows
namespace Mine
theorem Own.re {h₀ h h' : Heap} {L : Addr} {m : Loc} {a : Addr} {cs cs' : Cells} (O : Own h₀ L m cs h) (he : cs'.map (·.1) = cs.map (·.1)) (ha : a ∈ cs.map (·.1)) (hs : Heap.SameBut a h h') (hp : ∀ p ∈ cs', ∃ o, h'.get? p.1 = some o ∧ p.2 o) : Own h₀ L m cs' h' := by
  have un : ∀ b ∈ cs.map (·.1), b ≠ L ∧ h₀.get? b = none := fun b hb => by
    obtain ⟨p, hp, rfl⟩ := List.mem_map.mp hb
    exact (O.own p hp).2
  refine ⟨O.fr.change hs (un a ha).1 (un a ha).2, fun p hp' => ⟨hp p hp', un p.1 ?_⟩, by rw [he]; exact O.nd⟩
  rw [← he]; exact List.mem_map_of_mem hp'
theorem nodup_map_inj {α β : Type} {f : α → β} : ∀ {l : List α}, (l.map f).Nodup → ∀ {a b : α}, a ∈ l → b ∈ l → f a = f b → a = b
  | [], _, _, _, h, _, _ => nomatch h
  | x :: r, hn, a, b, ha, hb, e => by
    rw [List.map_cons, List.nodup_cons] at hn
    cases ha with
    | head => cases hb with
      | head => rfl
      | tail _ hb => exact (hn.1 (e ▸ List.mem_map_of_mem hb)).elim
    | tail _ ha => cases hb with
      | head => exact (hn.1 (e ▸ List.mem_map_of_mem ha)).elim
      | tail _ hb => exact nodup_map_inj hn.2 ha hb e
section
variable {prog : Program} {w : World} {A : Around} {s : Shared} {env : Env} {E : Value → Shared → Prop} {h₀ : Heap} {L : Addr} {m : Loc} {cs : Cells}

theorem rep_arr (its : List Value) : ∀ n : Nat, List.foldl (fun x1 x2 => x1 ++ x2) #[] (List.replicate n its.toArray) = (List.replicate n its).flatten.toArray := by
  have gen : ∀ (n : Nat) (acc : List Value), List.foldl (fun x1 x2 => x1 ++ x2) acc.toArray (List.replicate n its.toArray) = (acc ++ (List.replicate n its).flatten).toArray := by
    intro n
    induction n with
    | zero => intro acc; simp
    | succ n ih =>
      intro acc
      rw [List.replicate_succ, List.foldl_cons, List.append_toArray, ih]
      simp [List.replicate_succ]
  intro n
  simpa using gen n []

theorem o_mul' {l : Addr} {its : List Value} {x : Int} {u : Tok} {Q : Value → Shared → Prop} (O : Own h₀ L m cs s.heap) (hl : ∃ o, s.heap.get? l = some o ∧ isL its o) (hx0 : 0 ≤ x) (hx : x ≤ 100) (hn : its.toArray.isEmpty = false) (hsz : its.length ≤ 100)
    (h : ∀ a h' t', Own h₀ L m ((a, isL (List.replicate x.toNat its).flatten) :: cs) h' → Keeps s.heap h' → Q (.ref a) { s with heap := h', toks := t' }) :
    wpAny (model prog w) A (binaryOp .Mult (.ref l) (.int x u)) Q E s := by
  obtain ⟨k, hl⟩ := isL.at_ hl
  have h1 : Builtin.List.listFitsIndex x = true := by simp [Builtin.List.listFitsIndex]; omega
  have h2 : its.length * x.toNat ≤ 100 * 100 := Nat.mul_le_mul hsz (by omega)
  have h3 : ¬ Builtin.List.listTooLong (its.toArray.size * x.toNat) = true := by simp [Builtin.List.listTooLong, sizeLine]; omega
  have fin : Q (.ref s.heap.objs.size) { s with heap := s.heap.push { cls := .type "list", data := .seq (List.foldl (fun x1 x2 => x1 ++ x2) #[] (List.replicate (if its.toArray.isEmpty = true then 0 else x.toNat) its.toArray)) } } :=
    h s.heap.objs.size _ s.toks (O.push _ ⟨0, by rw [hn, if_neg Bool.false_ne_true, rep_arr]⟩) (fun b o e => Heap.get?_push_of_some _ e)
  refine wpAny_binaryOp_repeat_ref (T := "list") (U := "int") (by decide) ⟨_, hl, rfl⟩ (fun s' => typeIs_int s' x u) noFill_list_mul F.fills_int_mul F.slot_int_rmul repeat_list F.slot_int_index.lookup ?_
  refine call_meets F.slot_int_rmul (typeIs_int s x u) F.entry_int_rmul (F.args_int_rmul_2 _ _) (int___rmul___int_list x u l its.toArray k) ⟨hl, rfl, ⟨_, hl, rfl⟩, ?_⟩
  exact call_meets F.slot_list_mul ⟨_, hl, rfl⟩ F.entry_list_mul (F.args_list_mul_2 _ _) (AutoListH.list___mul___list_int_3 l its.toArray k x u (by rw [h1]; decide) (by rw [List.size_toArray]; omega) h3) ⟨hl, fin⟩
theorem o_add {l b : Addr} {its its2 : List Value} {Q : Value → Shared → Prop} (O : Own h₀ L m cs s.heap) (hl : ∃ o, s.heap.get? l = some o ∧ isL its o) (hb : ∃ o, s.heap.get? b = some o ∧ isL its2 o) (hsz : its.length + its2.length ≤ sizeLine)
    (h : ∀ a h' t', Own h₀ L m ((a, isL (its ++ its2)) :: cs) h' → Keeps s.heap h' → Q (.ref a) { s with heap := h', toks := t' }) :
    wpAny (model prog w) A (binaryOp .Add (.ref l) (.ref b)) Q E s := by
  obtain ⟨k, hl⟩ := isL.at_ hl
  obtain ⟨k2, hb⟩ := isL.at_ hb
  refine P.add_list hl hb ?_ (by simpa using hsz)
  exact h s.heap.objs.size _ s.toks (O.push _ ⟨0, by simp⟩) (fun b o e => Heap.get?_push_of_some _ e)

theorem assign_two {elts : List Expr} {kk : Nat} {tpos pos : Pos} {value : Expr} {n1 n2 : Str} {Q : Flow → Shared → Prop} (hh : A.handled = none)
    (h : wpAny (model prog w) A (eval value env) (fun v s₁ => ∃ t a b m cs, v = .ref t ∧ (∃ o, s₁.heap.get? t = some o ∧ isTup [a, b] o) ∧ Own h₀ L m cs s₁.heap ∧ (∀ h' t', Own h₀ L (upd (upd m n2 b) n1 a) cs h' → Q .next { s₁ with heap := h', toks := t' })) E s)
    (hs : swapsWithSole [.Tuple elts kk tpos] value pos.line env = pure false := by rfl) (hw : swappedStores [.Tuple elts kk tpos] value env = pure (some [n1, n2]) := by rfl)
    (hL : env.locals = L := by rfl) (hk : env.scope.kind = .function := by rfl) (hl1 : env.kindOf n1 = some .local := by rfl) (hl2 : env.kindOf n2 = some .local := by rfl) :
    wpAny (model prog w) A (exec (.Assign [.Tuple elts kk tpos] value pos) env) Q E s := by
  refine Assign_Tuple_swapped (names := [n1, n2]) (wpAny_mono h (fun v s₁ h₁ => ?_) fun _ _ x => x) hs hw
  obtain ⟨t, a, b, m, cs, rfl, ht, O, hq⟩ := h₁
  show wpAny _ _ (unpackItems (.ref t) [a, b].toArray.size none) _ _ _
  refine unpackItems_tuple hh (isTup.is ht) fun h' he => ?_
  show wpAny _ _ (assignInOrder [fun v => bindName env n2 v, fun v => bindName env n1 v] [b, a]) _ _ _
  have O := O.keeps (h' := h') fun c o e => he c o (Nat.ne_of_lt (Heap.lt_size e)) e
  refine assignInOrder_cons (bindName_ (st_loc O (fun h₂ t₂ O => ?_) hL hk hl2))
  refine assignInOrder_cons (bindName_ (st_loc O (fun h₃ t₃ O => ?_) hL hk hl1))
  exact assignInOrder_nil (hq _ _ O)
end

-- matrices
def isInts (c : Nat) (f : Nat → Int) (o : Obj) : Prop := ∃ vs, isW vs o ∧ vs.length = c ∧ ∀ j, j < c → ∃ t, vs[j]? = some (.int (f j) t)
def rowcells (as : List Addr) (M : Nat → Nat → Int) (c : Nat) : Cells := (List.range as.length).map fun i => (as.getD i 0, isInts c (M i))
def setM (M : Nat → Nat → Int) (i j : Nat) (v : Int) : Nat → Nat → Int := fun a b => if a = i ∧ b = j then v else M a b
theorem isInts.set {c : Nat} {f : Nat → Int} {vs : List Value} {j : Nat} {v : Int} {t : Tok} (hl : vs.length = c) (hv : ∀ j, j < c → ∃ t, vs[j]? = some (.int (f j) t)) (g : Nat → Int) (hg : ∀ k, g k = if k = j then v else f k) :
    (vs.set j (.int v t)).length = c ∧ ∀ k, k < c → ∃ t', (vs.set j (.int v t))[k]? = some (.int (g k) t') := by
  refine ⟨by simpa using hl, fun k hk => ?_⟩
  rw [hg k]
  by_cases e : k = j
  · subst e
    rw [if_pos rfl]
    exact ⟨t, by rw [List.getElem?_set_self (by omega)]⟩
  · rw [if_neg e, List.getElem?_set_ne (by omega)]
    exact hv k hk
section
variable {prog : Program} {w : World} {A : Around} {s : Shared} {env : Env} {E : Value → Shared → Prop} {h₀ : Heap} {L : Addr} {m : Loc} {cs : Cells}
/-- one entry of a matrix is set -/
theorem set_entry {as : List Addr} {M : Nat → Nat → Int} {c i j : Nat} {v : Int} {t u : Tok} {Q : Unit → Shared → Prop} (O : Own h₀ L m (rowcells as M c ++ cs) s.heap) (hi : i < as.length) (hj : j < c) (hc : c ≤ 1000)
    (h : ∀ h' t', Own h₀ L m (rowcells as (setM M i j v) c ++ cs) h' → Q () { s with heap := h', toks := t' }) :
    wpAny (model prog w) A (setItem (.ref (as.getD i 0)) (.int j u) (.int v t)) Q E s := by
  have mem : ∀ k, k < as.length → (as.getD k 0, isInts c (M k)) ∈ rowcells as M c := fun k hk => List.mem_map.mpr ⟨k, List.mem_range.mpr hk, rfl⟩
  obtain ⟨⟨o, e, vs, q, hl, hv⟩, n1, n2⟩ := O.own _ (List.mem_append_left _ (mem i hi))
  have HL := isW.list ⟨o, e, q⟩
  refine wpAny_setItem_list HL (Int.natCast_nonneg _) (by omega) (by simp; omega) fun h' hl' hs => h h' s.toks ?_
  refine O.re ?_ (a := as.getD i 0) ?_ hs fun p hp => ?_
  · simp [rowcells, Function.comp_def]
  · rw [List.map_append]
    exact List.mem_append_left _ (List.mem_map.mpr ⟨_, mem i hi, rfl⟩)
  · have nd := O.nd
    rw [List.map_append, List.nodup_append] at nd
    rcases List.mem_append.mp hp with hp | hp
    · obtain ⟨k, hk, rfl⟩ := List.mem_map.mp hp
      rw [List.mem_range] at hk
      by_cases hki : k = i
      · subst hki
        obtain ⟨o', e', c', n', d'⟩ := hl'
        have hset := isInts.set (j := j) (t := t) (v := v) hl hv (setM M k j v k) fun b => by by_cases hb : b = j <;> simp [setM, hb]
        exact ⟨o', e', vs.set j (.int v t), ⟨c', n', by rw [d']; simp⟩, hset⟩
      · obtain ⟨⟨o', e', r'⟩, _⟩ := O.own _ (List.mem_append_left _ (mem k hk))
        have ne : as.getD k 0 ≠ as.getD i 0 := by
          intro z
          have n1 := nd.1
          have : (rowcells as M c).map (·.1) = (List.range as.length).map fun i => as.getD i 0 := by simp [rowcells, Function.comp_def]
          rw [this] at n1
          exact hki (nodup_map_inj n1 (List.mem_range.mpr hk) (List.mem_range.mpr hi) z)
        refine ⟨o', (hs.2 _ ne).trans e', ?_⟩
        have : setM M i j v k = M k := by funext b; simp [setM, hki]
        rw [this]
        exact r'
    · obtain ⟨⟨o', e', r'⟩, _⟩ := O.own p (List.mem_append_right _ hp)
      refine ⟨o', (hs.2 _ ?_).trans e', r'⟩
      intro z
      exact nd.2.2 _ (List.mem_map.mpr ⟨_, mem i hi, rfl⟩) _ (List.mem_map.mpr ⟨p, hp, rfl⟩) z.symm
end
end Mine
end

section
set_option maxRecDepth 100000
set_option Elab.async false
set_option maxHeartbeats 400000
set_option linter.unusedVariables false
open PySem PySem.Sre PySem.Calls PySem.W PyProof.Rows
namespace Mine
/-- the cells are written otherwise (no rewriting: the states' terms are nested) -/
theorem Own.cast {h₀ h : Heap} {L : Addr} {m : Loc} {cs cs' : Cells} (O : Own h₀ L m cs h) (e : cs = cs') : Own h₀ L m cs' h := e ▸ O
theorem Own.imp {h₀ h : Heap} {L : Addr} {m : Loc} {a : Addr} {P P' : Obj → Prop} {cs : Cells} (O : Own h₀ L m ((a, P) :: cs) h) (f : ∀ o, P o → P' o) : Own h₀ L m ((a, P') :: cs) h := by
  refine ⟨O.fr, fun p hp => ?_, O.nd⟩
  cases hp with
  | head => have := O.own _ (.head _); exact ⟨let ⟨o, e, q⟩ := this.1; ⟨o, e, f o q⟩, this.2⟩
  | tail _ hp => exact O.own p (.tail _ hp)
theorem Fresh.imp {h₁ h : Heap} {a : Addr} {P P' : Obj → Prop} {cs : Cells} (F : Fresh h₁ ((a, P) :: cs) h) (f : ∀ o, P o → P' o) : Fresh h₁ ((a, P') :: cs) h := by
  refine ⟨F.keep, fun p hp => ?_, F.nd⟩
  cases hp with
  | head => have := F.own _ (.head _); exact ⟨let ⟨o, e, q⟩ := this.1; ⟨o, e, f o q⟩, this.2⟩
  | tail _ hp => exact F.own p (.tail _ hp)
theorem Fresh.perm {h₁ h : Heap} {cs cs' : Cells} (F : Fresh h₁ cs h) (s : cs'.Perm cs) : Fresh h₁ cs' h := ⟨F.keep, fun p hp => F.own p (s.subset hp), (s.map _).nodup_iff.mpr F.nd⟩
def tri : Nat → Nat
  | 0 => 0
  | k + 1 => tri k + k
def G2 (ns : Nat → Int) (k l : Nat) : Nat → Nat → Int := fun i j =>
  if i < j ∧ (j < k ∨ (j = k ∧ i < l)) then (ns (tri j + i)).fmod 7 - 3 else if j < i ∧ (i < k ∨ (i = k ∧ j < l)) then 3 - (ns (tri i + j)).fmod 7 else 0
def goalM (ns : Nat → Int) : Nat → Nat → Int := G2 ns 5 0
theorem G2_step (ns : Nat → Int) {k l : Nat} (h : l < k) {v1 v2 : Int} (e1 : v1 = (ns (tri k + l)).fmod 7 - 3) (e2 : v2 = 3 - (ns (tri k + l)).fmod 7) : setM (setM (G2 ns k l) l k v1) k l v2 = G2 ns k (l + 1) := by
  subst e1 e2
  funext i j
  unfold setM
  by_cases h1 : i = k ∧ j = l
  · obtain ⟨rfl, rfl⟩ := h1
    rw [if_pos ⟨rfl, rfl⟩]
    unfold G2
    rw [if_neg (by omega), if_pos (by omega)]
  · rw [if_neg h1]
    by_cases h2 : i = l ∧ j = k
    · obtain ⟨rfl, rfl⟩ := h2
      rw [if_pos ⟨rfl, rfl⟩]
      unfold G2
      rw [if_pos (by omega)]
    · rw [if_neg h2]
      unfold G2
      have e1 : (i < j ∧ (j < k ∨ (j = k ∧ i < l))) ↔ (i < j ∧ (j < k ∨ (j = k ∧ i < l + 1))) := by omega
      have e2 : (j < i ∧ (i < k ∨ (i = k ∧ j < l))) ↔ (j < i ∧ (i < k ∨ (i = k ∧ j < l + 1))) := by omega
      simp only [e1, e2]
theorem G2_turn (ns : Nat → Int) (k : Nat) : G2 ns k k = G2 ns (k + 1) 0 := by
  funext i j
  unfold G2
  have e1 : (i < j ∧ (j < k ∨ (j = k ∧ i < k))) ↔ (i < j ∧ (j < k + 1 ∨ (j = k + 1 ∧ i < 0))) := by omega
  have e2 : (j < i ∧ (i < k ∨ (i = k ∧ j < k))) ↔ (j < i ∧ (i < k + 1 ∨ (i = k + 1 ∧ j < 0))) := by omega
  simp only [e1, e2]
theorem G2_zero (ns : Nat → Int) : G2 ns 0 0 = fun _ _ => 0 := by
  funext i j
  unfold G2
  rw [if_neg (by omega), if_neg (by omega)]
theorem tri_lt : ∀ k, k < 5 → ∀ l, l < k → tri k + l < 10 := by decide
section
variable {prog : Program} {w : World} {A : Around} {s : Shared} {E : Value → Shared → Prop}

theorem goals_spec {n : Nat} {Q : Value → Shared → Prop} {c : Addr} {ns : Nat → Int} (G : Gl w s.heap) (ok : Ok A (n + 1)) (hc : ∃ o, s.heap.get? c = some o ∧ isInts 12 ns o)
    (fin : ∀ h' t' a as, as.length = 5 → Fresh s.heap ((a, isW (as.map .ref)) :: rowcells as (goalM ns) 5) h' → Q (.ref a) { s with heap := h', toks := t' }) :
    wpAny (model prog w) A (call (.ref 257) [.ref c]) Q E s := by
  refine call_fn (args := ⟨[.ref c], []⟩) (binds := [("cells", .ref c)]) G ok rfl rfl rfl rfl rfl rfl rfl (.of_eq rfl) (by decide) rfl rfl rfl rfl fun h₁ t₁ ok' O => ?_
  refine wpAny_execs_cons (assign_two ok'.hd (h₀ := s.heap) (L := s.heap.objs.size) (n1 := "goals") (n2 := "place") (Tuple_ (wpAny_items_cons ?_)))
  refine comp_eval (iterR 0 5) (fun k ys cs => k ≤ 5 ∧ ∃ as : List Addr, as.length = k ∧ ys = as.map .ref ∧ cs = as.reverse.map fun a => (a, isInts 5 fun _ => 0)) ok'.hd ?_ (fun _ _ _ _ _ _ _ _ => trivial) ?_ ?_ ?_
  · refine name_call (nm_blt G O rfl boot_range' (cw_type (wpAny_items_cons (wpAny_Constant_int (wpAny_items_nil ?_)))))
    refine range_1 (n := 5) O (by decide) fun it h₂ t₂ O₂ k₂ le => ?_
    obtain ⟨o, e, p⟩ := (O₂.own _ (.head _)).1
    exact ⟨it, h₂, t₂, [], rfl, rfl, ⟨Fresh.one k₂ (Heap.get?_none_of_le le) e p, le⟩, by decide, [], rfl, rfl, rfl⟩
  · rintro k ys cs ⟨hk5, as, hk, rfl, rfl⟩
    rw [List.length_map, sizeLine_eq]; omega
  · rintro C it acc k v ys cs h t m hk hv ⟨_, as, hl, rfl, rfl⟩ hm O'
    refine wpAny_tests_nil (ite_pos rfl ?_)
    refine wpAny_BinOp (List_ (wpAny_items_cons (wpAny_Constant_int (wpAny_items_nil (o_newList O' (Nat.le_of_ble_eq_true rfl) fun tmp h₂ t₂ O' _ => ?_)))))
    refine wpAny_Constant_int (o_mul' O' (O'.get 0 rfl) (by decide) (by decide) rfl (Nat.le_of_ble_eq_true rfl) fun a h₃ t₃ O' _ => ?_)
    have O' := (O'.imp (P' := isInts 5 fun _ => 0) fun o ho => ⟨_, ho.w, rfl, fun j hj => by
      match j, hj with
      | 0, _ => exact ⟨_, rfl⟩
      | 1, _ => exact ⟨_, rfl⟩
      | 2, _ => exact ⟨_, rfl⟩
      | 3, _ => exact ⟨_, rfl⟩
      | 4, _ => exact ⟨_, rfl⟩⟩).swap.drop
    refine ⟨h₃, t₃, m, _, rfl, (O'.swap).perm (cs' := (acc, isL (as.map .ref)) :: (it, isRI 0 5 (k + 1)) :: (a, isInts 5 fun _ => 0) :: (as.reverse.map fun a => (a, isInts 5 fun _ => 0))) (.cons _ (.swap ..)), hk, as ++ [a], by simp [hl], by simp, by simp⟩
  · rintro D ys cs h₂ t₂ ⟨_, as, hl, rfl, rfl⟩ F
    have hrow : (as.reverse.map fun a => (a, isInts 5 fun _ => 0) : Cells).Perm (rowcells as (G2 ns 0 0) 5) := by
      rw [G2_zero]
      have : rowcells as (fun _ _ => 0) 5 = as.map fun a => (a, isInts 5 fun _ => 0) := by
        apply List.ext_getElem
        · simp [rowcells]
        · intro i h1 h2
          simp [rowcells]
          have : i < as.length := by simpa using h2
          simp [List.getD_eq_getElem?_getD, this]
      rw [this]
      exact (List.reverse_perm as).map _
    have O := (O.join ((F.imp fun _ x => x.w).perm (hrow.symm.cons (D, isW (as.map .ref))))).sub (cs' := (D, isW (as.map .ref)) :: rowcells as (G2 ns 0 0) 5) (by simp)
    refine wpAny_items_cons (wpAny_Constant_int (wpAny_items_nil (o_newTuple O (Nat.le_of_ble_eq_true rfl) fun tup h₃ t₃ O _ => ?_)))
    refine ⟨tup, _, _, _, _, rfl, O.get 0 rfl, O.drop, fun h₄ t₄ O => ?_⟩
    -- the two loops
    have pm : ∀ (e : Cells) (x : Addr × (Obj → Prop)) (r : Cells), (x :: (e ++ r)).Perm (e ++ x :: r) := fun e x r => (List.perm_middle (l₁ := e)).symm
    have p1 : ∀ (e : Cells) (x : Addr × (Obj → Prop)), (x :: e).Perm (e ++ [x]) := fun e x => by simpa using pm e x []
    have ga : ∀ i, i < 5 → (as.map Value.ref)[i]? = some (.ref (as.getD i 0)) := fun i hi => by
      rw [List.getElem?_map, List.getD_eq_getElem?_getD, List.getElem?_eq_getElem (by omega)]; rfl
    refine wpAny_execs_cons (for_gen (iterR 0 5) (h₀ := s.heap) (L := s.heap.objs.size) (fun k m cs => ∃ t, m "goals" = some (.ref D) ∧ m "cells" = some (.ref c) ∧ m "place" = some (.int (tri k : Nat) t) ∧ cs = rowcells as (G2 ns k 0) 5 ++ [(D, isW (as.map .ref))]) ok'.hd ?_ (fun _ _ _ _ _ _ => trivial) ?_ ?_)
    · refine name_call (nm_blt G O rfl boot_range' (cw_type (wpAny_items_cons (wpAny_Constant_int (wpAny_items_nil ?_)))))
      refine range_1 (n := 5) O (by decide) fun it h₅ t₅ O₅ _ _ => ?_
      exact ⟨it, h₅, t₅, _, _, rfl, rfl, O₅.perm ((pm _ _ []).symm.cons _ |>.trans (by simp)), _, upd_same .., upd_ne (by decide) (upd_ne (by decide) rfl), upd_ne (by decide) (upd_same ..), rfl⟩
    · rintro k v m cs h t it hk ⟨tv, rfl⟩ ⟨tp, hg, hcl, hpl, rfl⟩ O
      rw [Int.zero_add] at O
      refine wpAny_execs_cons (for_gen (iterR 0 k) (h₀ := s.heap) (L := s.heap.objs.size) (fun l m cs => ∃ t t2, m "goals" = some (.ref D) ∧ m "cells" = some (.ref c) ∧ m "place" = some (.int (tri k + l : Nat) t) ∧ m "two" = some (.int (k : Nat) t2) ∧ cs = rowcells as (G2 ns k l) 5 ++ [(D, isW (as.map .ref)), (it, isRI 0 5 (k + 1))]) ok'.hd ?_ (fun _ _ _ _ _ _ => trivial) ?_ ?_)
      · refine name_call (nm_blt G O rfl boot_range' (cw_type (wpAny_items_cons (nm_loc O (upd_same ..) (wpAny_items_nil ?_)))))
        refine range_1 (n := k) O (by omega) fun it2 h₅ t₅ O₅ _ _ => ?_
        exact ⟨it2, h₅, t₅, _, _, rfl, rfl, O₅.perm (.cons _ (by simpa using (p1 (rowcells as (G2 ns k 0) 5 ++ [(D, isW (as.map .ref))]) (it, isRI 0 5 (k + 1))).symm)), _, _, upd_ne (by decide) hg, upd_ne (by decide) hcl, upd_ne (by decide) hpl, upd_same .., rfl⟩
      · rintro l v m cs h t it2 hl2 ⟨tv2, rfl⟩ ⟨tp, t2, hg, hcl, hpl, htw, rfl⟩ O
        rw [Int.zero_add] at O
        have O := O.perm (cs' := rowcells as (G2 ns k l) 5 ++ [(D, isW (as.map .ref)), (it, isRI 0 5 (k + 1)), (it2, isRI 0 k (l + 1))]) (by simpa using (p1 (rowcells as (G2 ns k l) 5 ++ [(D, isW (as.map .ref)), (it, isRI 0 5 (k + 1))]) (it2, isRI 0 k (l + 1))).symm)
        have hg := upd_ne (m := m) (v := .int l tv2) (show (Str.ofString "goals") ≠ Str.ofString "one" by decide) hg
        have hcl := upd_ne (m := m) (v := .int l tv2) (show (Str.ofString "cells") ≠ Str.ofString "one" by decide) hcl
        have hpl := upd_ne (m := m) (v := .int l tv2) (show (Str.ofString "place") ≠ Str.ofString "one" by decide) hpl
        have htw := upd_ne (m := m) (v := .int l tv2) (show (Str.ofString "two") ≠ Str.ofString "one" by decide) htw
        have hon := upd_same m (Str.ofString "one") (.int l tv2)
        have hlt := tri_lt k hk l hl2
        obtain ⟨oc, ec, vs, wc, lc, vc⟩ := hc
        obtain ⟨tc, vcx⟩ := vc (tri k + l) (by omega)
        have gD : ∀ {M h} , Own s.heap s.heap.objs.size (upd m (Str.ofString "one") (.int l tv2)) (rowcells as M 5 ++ [(D, isW (as.map .ref)), (it, isRI 0 5 (k + 1)), (it2, isRI 0 k (l + 1))]) h → ∃ o, h.get? D = some o ∧ isW (as.map .ref) o := fun O => (O.own _ (List.mem_append_right _ (.head _))).1
        refine wpAny_execs_cons (wpAny_Assign_Subscript (wpAny_BinOp (wpAny_BinOp (sub_list (nm_loc O hcl (nm_loc O hpl ?_))))))
        refine ⟨c, vs, (tri k + l : Nat), _, _, rfl, rfl, ⟨oc, O.keep _ _ ec, wc⟩, by omega, by omega, vcx, ?_⟩
        refine wpAny_Constant_int (mod_int' (by decide) (wpAny_Constant_int (sub_int' ?_)))
        refine sub_list (nm_loc O hg (nm_loc O hon ?_))
        refine ⟨D, _, (l : Nat), _, _, rfl, rfl, gD O, by omega, by omega, ga l (by omega), ?_⟩
        refine nm_loc O htw (set_entry O (by omega) (by omega) (by decide) fun h₆ t₆ O => ?_)
        refine wpAny_execs_cons (wpAny_Assign_Subscript (wpAny_BinOp (wpAny_Constant_int (wpAny_BinOp (sub_list (nm_loc O hcl (nm_loc O hpl ?_)))))))
        refine ⟨c, vs, (tri k + l : Nat), _, _, rfl, rfl, ⟨oc, O.keep _ _ ec, wc⟩, by omega, by omega, vcx, ?_⟩
        refine wpAny_Constant_int (mod_int' (by decide) (sub_int' ?_))
        refine sub_list (nm_loc O hg (nm_loc O htw ?_))
        refine ⟨D, _, (k : Nat), _, _, rfl, rfl, gD O, by omega, by omega, ga k hk, ?_⟩
        refine nm_loc O hon (set_entry O (by omega) (by omega) (by decide) fun h₇ t₇ O => ?_)
        refine wpAny_execs_cons (wpAny_AugAssign_Name (ldn_loc O hpl (wpAny_Constant_int (P.iadd_int (st_loc O fun h₈ t₈ O => ?_)))))
        have O := O.cast (cs' := rowcells as (G2 ns k (l + 1)) 5 ++ [(D, isW (as.map .ref)), (it, isRI 0 5 (k + 1)), (it2, isRI 0 k (l + 1))]) (congrArg (fun M => rowcells as M 5 ++ [(D, isW (as.map .ref)), (it, isRI 0 5 (k + 1)), (it2, isRI 0 k (l + 1))]) (G2_step ns hl2 rfl rfl))
        have pp := p1 (rowcells as (G2 ns k (l + 1)) 5 ++ [(D, isW (as.map .ref)), (it, isRI 0 5 (k + 1))]) (it2, isRI 0 k (l + 1))
        rw [List.append_assoc] at pp
        have O := O.perm pp
        refine wpAny_execs_nil ⟨.inl rfl, h₈, t₈, _, _, rfl, O, _, _, upd_ne (by decide) hg, upd_ne (by decide) hcl, upd_same .., upd_ne (by decide) htw, rfl⟩
      · rintro m cs h t ⟨tp, t2, hg, hcl, hpl, htw, rfl⟩ O
        rw [G2_turn] at O
        have pp := p1 (rowcells as (G2 ns (k + 1) 0) 5 ++ [(D, isW (as.map .ref))]) (it, isRI 0 5 (k + 1))
        rw [List.append_assoc] at pp
        have O := O.perm pp
        refine wpAny_execs_nil ⟨.inl rfl, h, t, m, _, rfl, O, _, hg, hcl, hpl, rfl⟩
    · rintro m cs h t ⟨tp, hg, _, _, rfl⟩ O
      refine wpAny_execs_cons (wpAny_Return_some (nm_loc O hg ?_))
      exact fin _ _ D as hl (O.perm (p1 _ _)).fresh
end
end Mine
end

section
set_option maxRecDepth 100000
set_option Elab.async false
set_option maxHeartbeats 1000000
set_option linter.unusedVariables false
open PySem PySem.Sre PySem.Calls PySem.W PyProof.Rows
namespace Mine
def tx (l : List Nat) : Str := ⟨l.toArray⟩
theorem tx_append (a b : List Nat) : tx a ++ tx b = tx (a ++ b) := by
  show (⟨a.toArray ++ b.toArray⟩ : Str) = ⟨(a ++ b).toArray⟩
  rw [List.append_toArray]
theorem tx_len (a : List Nat) : (tx a).length = a.length := by
  show a.toArray.size = _
  exact List.size_toArray
theorem tx_cps (a : List Nat) : (tx a).cps.toList = a := rfl

def mrow (M : Nat → Nat → Int) (st j p : Nat) : List Nat := List.replicate (j + (4 + M ((st + p % 5) % 5) (p / 5)).toNat) 46 ++ [97 + (st + p % 5) % 5, 97 + p / 5]
def mtext (e : List Nat) (M : Nat → Nat → Int) (st j n : Nat) : List Nat := lines e ((List.range n).map (mrow M st j))
theorem mtext_succ (e : List Nat) (M : Nat → Nat → Int) (st j n : Nat) : mtext e M st j (n + 1) = mtext e M st j n ++ (mrow M st j n ++ e) := by
  simp [mtext, lines, List.range_succ]
theorem lines_len (e : List Nat) (N : Nat) : ∀ xs : List (List Nat), (∀ b ∈ xs, b.length ≤ N) → (lines e xs).length ≤ xs.length * (N + e.length)
  | [], _ => by simp [lines]
  | b :: xs, h => by
    rw [lines_cons, List.length_append, List.length_append, List.length_cons, Nat.add_mul]
    have h1 := h b (.head _)
    have h2 := lines_len e N xs fun c hc => h c (.tail _ hc)
    omega
def small (M : Nat → Nat → Int) : Prop := ∀ i, i < 5 → ∀ j, j < 5 → -3 ≤ M i j ∧ M i j ≤ 3
theorem mrow_len {M : Nat → Nat → Int} (hM : small M) {st j p : Nat} (hj : j ≤ 3) (hp : p < 25) : (mrow M st j p).length ≤ 12 := by
  have := hM ((st + p % 5) % 5) (by omega) (p / 5) (by omega)
  simp only [mrow, List.length_append, List.length_replicate, List.length_cons, List.length_nil]
  omega
theorem mtext_len {M : Nat → Nat → Int} (hM : small M) {e : List Nat} {st j n : Nat} (he : e.length ≤ 2) (hj : j ≤ 3) (hn : n ≤ 25) : (mtext e M st j n).length ≤ 350 := by
  have h1 := lines_len e 12 ((List.range n).map (mrow M st j)) fun b hb => by
    obtain ⟨p, hp, rfl⟩ := List.mem_map.mp hb
    exact mrow_len hM hj (by have := List.mem_range.mp hp; omega)
  rw [List.length_map, List.length_range] at h1
  have h2 : n * (12 + e.length) ≤ 25 * 14 := Nat.mul_le_mul hn (by omega)
  show (lines e _).length ≤ 350
  omega
theorem rep_arrN (its : List Nat) : ∀ n : Nat, List.foldl (fun x1 x2 => x1 ++ x2) #[] (List.replicate n its.toArray) = (List.replicate n its).flatten.toArray := by
  have gen : ∀ (n : Nat) (acc : List Nat), List.foldl (fun x1 x2 => x1 ++ x2) acc.toArray (List.replicate n its.toArray) = (acc ++ (List.replicate n its).flatten).toArray := by
    intro n
    induction n with
    | zero => intro acc; simp
    | succ n ih =>
      intro acc
      rw [List.replicate_succ, List.foldl_cons, List.append_toArray, ih]
      simp [List.replicate_succ]
  intro n
  simpa using gen n []
theorem abcde_at : ∀ i : Nat, i < 5 → (seqIndex? (i : Int) (Str.ofString "abcde").length).bind ((Str.ofString "abcde").cps[·]?) = some (97 + i) := by decide +kernel

section
variable {prog : Program} {w : World} {A : Around} {s : Shared} {E : Value → Shared → Prop}
theorem str_dots {x : Str} (hx : x = tx [46]) {n : Int} {t u : Tok} (k : Nat) (hn : n = k) (h1 : 1 ≤ k) (h2 : k ≤ 100) {Q : Value → Shared → Prop}
    (h : ∀ t' tk, Q (.str (tx (List.replicate k 46)) tk) { s with toks := t' }) : wpAny (model prog w) A (binaryOp .Mult (.str x t) (.int n u)) Q E s := by
  subst hx hn
  have hl : (tx [46]).length = 1 := rfl
  refine P.mul_str ?_ (fun _ _ => ?_) (fun _ _ => ?_) ?_
  · simp; omega
  · rw [hl]
    have hk : (1 : Int) ≤ (2 ^ 63 - 1) / (k : Int) := Int.le_ediv_of_mul_le (by omega) (by omega)
    exact Int.not_lt.mpr hk
  · rw [hl]; unfold Builtin.Str.tooLong; simp [sizeLine_eq]; omega
  · rw [if_neg (by omega)]
    by_cases hk : k = 1
    · subst hk
      exact h s.toks t
    · have : ((k : Int) == 1 || (tx [46]).length == 0) = false := by rw [hl]; simp; omega
      rw [this, if_neg Bool.false_ne_true]
      have e : (⟨(List.replicate (k : Int).toNat (tx [46]).cps).foldl (· ++ ·) #[]⟩ : Str) = tx (List.replicate k 46) := by
        have := rep_arrN [46] k
        show (⟨List.foldl _ #[] (List.replicate k [46].toArray)⟩ : Str) = _
        rw [this]
        simp [tx]
      rw [e]
      exact ⟨by rw [tx_len, List.length_replicate, sizeLine_eq]; omega, h _ _⟩
end
end Mine
end

section
set_option maxRecDepth 100000
set_option Elab.async false
set_option maxHeartbeats 1000000
set_option linter.unusedVariables false
open PySem PySem.Sre PySem.Calls PySem.W PyProof.Rows
namespace Mine
def qrow (M : Nat → Nat → Int) (st j p : Nat) : List Nat := List.replicate (j + (4 + M ((st + p % 5) % 5) (p / 5)).toNat - 1) 46 ++ [97 + (st + p % 5) % 5, 97 + p / 5]
theorem mrow_q {M : Nat → Nat → Int} (hM : small M) {st j p : Nat} (hp : p < 25) : mrow M st j p = 46 :: qrow M st j p ∧ mrow M st (j + 1) p = 46 :: 46 :: qrow M st j p := by
  have := hM ((st + p % 5) % 5) (by omega) (p / 5) (by omega)
  obtain ⟨d, hd⟩ : ∃ d, (4 + M ((st + p % 5) % 5) (p / 5)).toNat = d + 1 := ⟨(4 + M ((st + p % 5) % 5) (p / 5)).toNat - 1, by omega⟩
  unfold mrow qrow
  rw [hd]
  constructor
  · rw [show j + (d + 1) = (j + (d + 1) - 1) + 1 by omega, List.replicate_succ]; rfl
  · rw [show j + 1 + (d + 1) = (j + (d + 1) - 1) + 1 + 1 by omega, List.replicate_succ, List.replicate_succ]; rfl
theorem qrow_clean {M : Nat → Nat → Int} {st j p : Nat} : clean (qrow M st j p) := by
  intro c hc
  rcases List.mem_append.mp hc with hc | hc
  · rw [List.mem_replicate] at hc; omega
  · simp only [List.mem_cons, List.not_mem_nil, or_false] at hc; omega
theorem mtext_q {M : Nat → Nat → Int} (hM : small M) (e : List Nat) (st j : Nat) : ∃ b bs, (List.range 25).map (qrow M st j) = b :: bs ∧ bs.length ≤ 1000 ∧ (∀ y ∈ b :: bs, clean y) ∧
    mtext e M st j 25 = lines e ((b :: bs).map (46 :: ·)) ∧ mtext [13, 10] M st (j + 1) 25 = lines [13, 10] ((b :: bs).map (46 :: 46 :: ·)) := by
  obtain ⟨b, bs, h⟩ : ∃ b bs, (List.range 25).map (qrow M st j) = b :: bs := ⟨_, _, rfl⟩
  have hl : bs.length + 1 = 25 := by have := congrArg List.length h; simpa using this.symm
  refine ⟨b, bs, h, by omega, fun y hy => ?_, ?_, ?_⟩
  · rw [← h] at hy
    obtain ⟨p, hp, rfl⟩ := List.mem_map.mp hy
    exact qrow_clean
  · rw [← h, List.map_map]
    unfold mtext
    congr 1
    exact List.map_congr_left fun p hp => (mrow_q hM (List.mem_range.mp hp)).1
  · rw [← h, List.map_map]
    unfold mtext
    congr 1
    exact List.map_congr_left fun p hp => (mrow_q hM (List.mem_range.mp hp)).2

section
variable {prog : Program} {w : World} {A : Around} {s : Shared} {E : Value → Shared → Prop}

theorem st_int {env : Env} {h₀ : Heap} {L : Addr} {m : Loc} {cs : Cells} {x : Str} {z z' : Int} {tk : Tok} {Q : Unit → Shared → Prop} (O : Own h₀ L m cs s.heap) (e : z = z')
    (h : ∀ h' t' tk', Own h₀ L (upd m x (.int z' tk')) cs h' → Q () { s with heap := h', toks := t' })
    (hL : env.locals = L := by rfl) (hk : env.scope.kind = .function := by rfl) (hl : env.kindOf x = some .local := by rfl) : wpAny (model prog w) A (storeName env x (.int z tk)) Q E s := by
  subst e
  exact st_loc O (fun h' t' O' => h h' t' _ O') hL hk hl
theorem st_str {env : Env} {h₀ : Heap} {L : Addr} {m : Loc} {cs : Cells} {x : Str} {z z' : Str} {tk : Tok} {Q : Unit → Shared → Prop} (O : Own h₀ L m cs s.heap) (e : z = z')
    (h : ∀ h' t' tk', Own h₀ L (upd m x (.str z' tk')) cs h' → Q () { s with heap := h', toks := t' })
    (hL : env.locals = L := by rfl) (hk : env.scope.kind = .function := by rfl) (hl : env.kindOf x = some .local := by rfl) : wpAny (model prog w) A (storeName env x (.str z tk)) Q E s := by
  subst e
  exact st_loc O (fun h' t' O' => h h' t' _ O') hL hk hl
theorem mail_spec {n : Nat} {Q : Value → Shared → Prop} {a : Addr} {as : List Addr} {M : Nat → Nat → Int} {st T : Nat} {e : List Nat} {ts te tt : Tok} (G : Gl w s.heap) (ok : Ok A (n + 1 + 1))
    (hg : ∃ o, s.heap.get? a = some o ∧ isW (as.map .ref) o) (hl : as.length = 5) (hr : ∀ i, i < 5 → ∃ o, s.heap.get? (as.getD i 0) = some o ∧ isInts 5 (M i) o) (hM : small M) (hst : st < 5) (he : e = [10] ∨ e = [13] ∨ e = [13, 10]) (h1 : 1 ≤ T) (h2 : T ≤ 2)
    (fin : ∀ h' t' tk, Keeps s.heap h' → Q (.str (tx (mtext [13, 10] M st T 25)) tk) { s with heap := h', toks := t' }) :
    wpAny (model prog w) A (call (.ref 264) [.ref a, .int st ts, .str (tx e) te, .int T tt]) Q E s := by
  have hel : e.length ≤ 2 := by rcases he with rfl | rfl | rfl <;> decide
  refine call_fn (args := ⟨[.ref a, .int st ts, .str (tx e) te, .int T tt], []⟩) (binds := [("goals", .ref a), ("start", .int st ts), ("end", .str (tx e) te), ("turns", .int T tt)]) G ok rfl rfl rfl rfl rfl rfl rfl (.of_eq rfl) (by decide) rfl rfl rfl rfl fun h₁ t₁ ok' O => ?_
  have ga : ∀ i, i < 5 → (as.map Value.ref)[i]? = some (.ref (as.getD i 0)) := fun i hi => by
    rw [List.getElem?_map, List.getD_eq_getElem?_getD, List.getElem?_eq_getElem (by omega)]; rfl
  have kp : ∀ {h m cs}, Own s.heap s.heap.objs.size m cs h → (∃ o, h.get? a = some o ∧ isW (as.map .ref) o) ∧ (∀ i, i < 5 → ∃ o, h.get? (as.getD i 0) = some o ∧ isInts 5 (M i) o) := fun O =>
    ⟨let ⟨o, x, q⟩ := hg; ⟨o, O.keep _ _ x, q⟩, fun i hi => let ⟨o, x, q⟩ := hr i hi; ⟨o, O.keep _ _ x, q⟩⟩
  refine wpAny_execs_cons (wpAny_Assign_Name (wpAny_Constant_str (st_str (z' := tx []) O (by decide +kernel) fun h₂ t₂ tk₂ O => ?_)))
  let ML : Loc → Nat → Prop := fun m p => m "goals" = some (.ref a) ∧ m "start" = some (.int st ts) ∧ m "end" = some (.str (tx e) te) ∧ m "turns" = some (.int T tt) ∧ ∃ tk, m "mail" = some (.str (tx (mtext e M st 0 p)) tk)
  have MLu : ∀ {m p x v}, ML m p → x ≠ Str.ofString "goals" → x ≠ Str.ofString "start" → x ≠ Str.ofString "end" → x ≠ Str.ofString "turns" → x ≠ Str.ofString "mail" → ML (upd m x v) p := fun ⟨b1, b2, b3, b4, tk, b5⟩ c1 c2 c3 c4 c5 =>
    ⟨upd_ne c1.symm b1, upd_ne c2.symm b2, upd_ne c3.symm b3, upd_ne c4.symm b4, tk, upd_ne c5.symm b5⟩
  refine wpAny_execs_cons (for_gen (iterR 0 5) (h₀ := s.heap) (L := s.heap.objs.size) (fun k m cs => ML m (5 * k) ∧ cs = []) ok'.hd ?_ (fun _ _ _ _ _ _ => trivial) ?_ ?_)
  · refine name_call (nm_blt G O rfl boot_range' (cw_type (wpAny_items_cons (wpAny_Constant_int (wpAny_items_nil ?_)))))
    refine range_1 (n := 5) O (by decide) fun it h₅ t₅ O₅ _ _ => ?_
    exact ⟨it, h₅, t₅, _, _, rfl, rfl, O₅, ⟨upd_ne (by decide) rfl, upd_ne (by decide) rfl, upd_ne (by decide) rfl, upd_ne (by decide) rfl, _, upd_same ..⟩, rfl⟩
  · rintro k v m cs h t it hk ⟨tv, rfl⟩ ⟨hml, rfl⟩ O
    rw [Int.zero_add] at O
    refine wpAny_execs_cons (for_gen (iterR 0 5) (h₀ := s.heap) (L := s.heap.objs.size) (fun l m cs => ML m (5 * k + l) ∧ m "two" = some (.int k tv) ∧ cs = [(it, isRI 0 5 (k + 1))]) ok'.hd ?_ (fun _ _ _ _ _ _ => trivial) ?_ ?_)
    · refine name_call (nm_blt G O rfl boot_range' (cw_type (wpAny_items_cons (wpAny_Constant_int (wpAny_items_nil ?_)))))
      refine range_1 (n := 5) O (by decide) fun it2 h₅ t₅ O₅ _ _ => ?_
      exact ⟨it2, h₅, t₅, _, _, rfl, rfl, O₅, MLu hml (by decide) (by decide) (by decide) (by decide) (by decide), upd_same .., rfl⟩
    · rintro l v m cs h t it2 hl2 ⟨tv2, rfl⟩ ⟨hml, htw, rfl⟩ O
      rw [Int.zero_add] at O
      have hml := MLu (x := Str.ofString "step") (v := .int l tv2) hml (by decide) (by decide) (by decide) (by decide) (by decide)
      have htw := upd_ne (m := m) (v := .int l tv2) (show (Str.ofString "two") ≠ Str.ofString "step" by decide) htw
      have e1 : ((st : Int) + (l : Int)).fmod 5 = (((st + l) % 5 : Nat) : Int) := by rw [Int.fmod_eq_emod_of_nonneg _ (by decide)]; omega
      refine wpAny_execs_cons (wpAny_Assign_Name (wpAny_BinOp (wpAny_BinOp (nm_loc O hml.2.1 (nm_loc O (upd_same ..) (PyProof.Rows.add_int (wpAny_Constant_int (mod_int' (by decide) (st_int O e1 fun h₃ t₃ tk₃ O => ?_)))))))))
      have hone := upd_same (upd m (Str.ofString "step") (.int l tv2)) (Str.ofString "one") (.int (((st + l) % 5 : Nat) : Int) tk₃)
      have hml := MLu (x := Str.ofString "one") (v := .int (((st + l) % 5 : Nat) : Int) tk₃) hml (by decide) (by decide) (by decide) (by decide) (by decide)
      have htw := upd_ne (v := .int (((st + l) % 5 : Nat) : Int) tk₃) (show (Str.ofString "two") ≠ Str.ofString "one" by decide) htw
      have hmu := fun v : Value => MLu (x := Str.ofString "one") (v := v) hml
      obtain ⟨b1, b2, b3, b4, tk, b5⟩ := hml
      have hi : (st + l) % 5 < 5 := by omega
      obtain ⟨kg, kr⟩ := kp O
      obtain ⟨oi, ei, vs, wi, li, vi⟩ := kr _ hi
      obtain ⟨tj, hj⟩ := vi k hk
      have hMb := hM _ hi k hk
      have hp5 : (5 * k + l) / 5 = k := by omega
      have hm5 : (5 * k + l) % 5 = l := by omega
      have hlen := mtext_len hM (st := st) hel (show 0 ≤ 3 by decide) (show 5 * k + l ≤ 25 by omega)
      have hrow : mrow M st 0 (5 * k + l) = List.replicate (4 + M ((st + l) % 5) k).toNat 46 ++ [97 + (st + l) % 5] ++ [97 + k] := by
        unfold mrow
        rw [hp5, hm5, Nat.zero_add]
        simp
      refine wpAny_execs_cons (wpAny_AugAssign_Name (ldn_loc O b5 ?_))
      refine wpAny_BinOp (wpAny_BinOp (wpAny_BinOp (wpAny_BinOp (wpAny_Constant_str (wpAny_BinOp (wpAny_Constant_int (sub_list (sub_list (nm_loc O b1 (nm_loc O hone ?_))))))))))
      refine ⟨a, _, _, _, _, rfl, rfl, kg, by omega, by omega, ga _ hi, ?_⟩
      refine nm_loc O htw ⟨_, vs, k, _, _, rfl, rfl, ⟨oi, ei, wi⟩, by omega, by omega, hj, ?_⟩
      refine PyProof.Rows.add_int (str_dots (by decide +kernel) (4 + M ((st + l) % 5) k).toNat (by omega) (by omega) (by omega) ?_)
      intro t₄ k₄
      refine sub_str (wpAny_Constant_str (nm_loc O hone ⟨_, _, _, _, _, rfl, rfl, by omega, by omega, abcde_at _ hi, ?_⟩))
      intro t₅ k₅
      refine PyProof.Rows.add_str (fun k₆ t₆ => ?_) ?_
      rotate_left
      · rw [tx_len, sizeLine_eq, List.length_replicate]
        show _ + 1 ≤ _
        omega
      refine sub_str (wpAny_Constant_str (nm_loc O htw ⟨_, _, _, _, _, rfl, rfl, by omega, by omega, abcde_at _ hk, ?_⟩))
      intro t₇ k₇
      have a1 : tx (List.replicate (4 + M ((st + l) % 5) k).toNat 46) ++ (⟨#[97 + (st + l) % 5]⟩ : Str) = tx (List.replicate (4 + M ((st + l) % 5) k).toNat 46 ++ [97 + (st + l) % 5]) := tx_append _ [97 + (st + l) % 5]
      have a2 : tx (List.replicate (4 + M ((st + l) % 5) k).toNat 46) ++ (⟨#[97 + (st + l) % 5]⟩ : Str) ++ (⟨#[97 + k]⟩ : Str) = tx (mrow M st 0 (5 * k + l)) := by
        rw [a1, hrow]; exact tx_append _ [97 + k]
      have hrl := mrow_len hM (st := st) (show 0 ≤ 3 by decide) (show 5 * k + l < 25 by omega)
      refine PyProof.Rows.add_str (fun k₈ t₈ => ?_) ?_
      rotate_left
      · rw [a1, tx_len, sizeLine_eq, List.length_append, List.length_replicate]
        show _ + [_].length + 1 ≤ _
        simp; omega
      refine nm_loc O b3 (PyProof.Rows.add_str (fun k₉ t₉ => ?_) ?_)
      rotate_left
      · rw [a2, tx_len, tx_len, sizeLine_eq]
        omega
      have a3 : tx (List.replicate (4 + M ((st + l) % 5) k).toNat 46) ++ (⟨#[97 + (st + l) % 5]⟩ : Str) ++ (⟨#[97 + k]⟩ : Str) ++ tx e = tx (mrow M st 0 (5 * k + l) ++ e) := by rw [a2, tx_append]
      refine PyProof.Rows.iadd_str (fun k₁₀ t₁₀ => ?_) ?_
      rotate_left
      · rw [a3, tx_len, tx_len, sizeLine_eq, List.length_append]
        omega
      refine st_str (z' := tx (mtext e M st 0 (5 * k + (l + 1)))) O ?_ fun h₁₁ t₁₁ k₁₁ O => ?_
      · rw [a3, tx_append, ← Nat.add_assoc, mtext_succ]
      refine wpAny_execs_nil ⟨.inl rfl, h₁₁, t₁₁, _, _, rfl, O, ⟨upd_ne (by decide) b1, upd_ne (by decide) b2, upd_ne (by decide) b3, upd_ne (by decide) b4, _, upd_same ..⟩, upd_ne (by decide) htw, rfl⟩
    · rintro m cs h t ⟨hml, htw, rfl⟩ O
      exact wpAny_execs_nil ⟨.inl rfl, h, t, m, _, rfl, O, (show 5 * k + 5 = 5 * (k + 1) by omega) ▸ hml, rfl⟩
  · rintro m cs h t ⟨⟨b1, b2, b3, b4, tk, b5⟩, rfl⟩ O
    let ex : Nat → List Nat := fun j => if j = 0 then e else [13, 10]
    have hex : ∀ j, ex j = [10] ∨ ex j = [13] ∨ ex j = [13, 10] := fun j => by
      show (if j = 0 then e else [13, 10]) = _ ∨ (if j = 0 then e else [13, 10]) = _ ∨ (if j = 0 then e else [13, 10]) = _
      split
      · exact he
      · exact .inr (.inr rfl)
    have hexl : ∀ j, (ex j).length ≤ 2 := fun j => by rcases hex j with h | h | h <;> rw [h] <;> decide
    refine wpAny_execs_cons (for_gen (iterR 0 T) (h₀ := s.heap) (L := s.heap.objs.size) (fun j m cs => (∃ tk, m "mail" = some (.str (tx (mtext (ex j) M st j 25)) tk)) ∧ cs = []) ok'.hd ?_ (fun _ _ _ _ _ _ => trivial) ?_ ?_)
    · refine name_call (nm_blt G O rfl boot_range' (cw_type (wpAny_items_cons (nm_loc O b4 (wpAny_items_nil ?_)))))
      refine range_1 (n := T) O (by omega) fun it h₅ t₅ O₅ _ _ => ?_
      exact ⟨it, h₅, t₅, _, _, rfl, rfl, O₅, ⟨_, b5⟩, rfl⟩
    · rintro j v m cs h t it hj ⟨tv, rfl⟩ ⟨⟨tk, b5⟩, rfl⟩ O
      obtain ⟨b, bs, _, hbl, hcl, q1, q2⟩ := mtext_q hM (ex j) st j
      have hsz := mtext_len hM (st := st) (n := 25) (hexl j) (show j ≤ 3 by omega) (by decide)
      rw [q1] at b5 hsz
      refine wpAny_execs_cons (wpAny_Assign_Name (name_call (nm_glob G O rfl (cw_fn (wpAny_items_cons (nm_loc O (upd_ne (by decide) b5) (wpAny_items_nil ⟨⟨_, _, (G.keeps O.keep).K 252 _ rfl, rfl⟩, ?_⟩)))))))
      refine quote_spec (n := n) (G.keeps O.keep) ok' (hex j) hcl hbl (Nat.le_trans hsz (by decide)) fun h₆ t₆ tk₆ k₆ => ?_
      refine st_str (z' := tx (mtext (ex (j + 1)) M st (j + 1) 25)) (O.keeps k₆) (congrArg tx q2.symm) fun h₇ t₇ tk₇ O => ?_
      exact wpAny_execs_nil ⟨.inl rfl, h₇, t₇, _, _, rfl, O, ⟨_, upd_same ..⟩, rfl⟩
    · rintro m cs h t ⟨⟨tk, b5⟩, rfl⟩ O
      have : ex T = [13, 10] := if_neg (by omega)
      rw [this] at b5
      exact wpAny_execs_cons (wpAny_Return_some (nm_loc O b5 (fin _ _ _ O.keep)))
end
end Mine
end

section
set_option maxRecDepth 100000
set_option Elab.async false
set_option maxHeartbeats 1000000
set_option linter.unusedVariables false
open PySem PySem.Sre PySem.Calls PySem.W PyProof.Rows PySem.Builtin.Str PySem.StrLaws
namespace Mine
theorem forIn_append' {σ : Type} (f : Nat → σ → Id (ForInStep σ)) (hy : ∀ i st, ∃ st', f i st = pure (ForInStep.yield st')) : ∀ (l₁ l₂ : List Nat) (st : σ), (forIn (l₁ ++ l₂) st f).run = (forIn l₂ (forIn l₁ st f).run f).run
  | [], l₂, st => rfl
  | i :: l₁, l₂, st => by
    obtain ⟨st', h⟩ := hy i st
    rw [List.cons_append, List.forIn_cons, List.forIn_cons, h]
    exact forIn_append' f hy l₁ l₂ st'
theorem occ_yield (s sub : Str) (hi limit : Nat) (i : Nat) (st : Array Nat × Nat) : ∃ st', occBody s sub hi limit i st = pure (ForInStep.yield st') := by
  unfold occBody; split <;> exact ⟨_, rfl⟩
theorem occ_skip (s sub : Str) (hi limit : Nat) : ∀ (l : List Nat) (st : Array Nat × Nat), (∀ i ∈ l, subAt s sub i = false) → (forIn l st (occBody s sub hi limit)).run = st
  | [], st, _ => rfl
  | i :: l, st, h => by
    rw [List.forIn_cons]
    have : occBody s sub hi limit i st = pure (ForInStep.yield st) := by
      unfold occBody
      rw [h i (.head _), if_neg (by simp)]
    rw [this]
    exact occ_skip s sub hi limit l st fun j hj => h j (.tail _ hj)
def stops : Nat → List (List Nat) → List Nat
  | _, [] => []
  | p, b :: bs => (p + b.length) :: stops (p + b.length + 2) bs
theorem stops_len : ∀ (p : Nat) (bs : List (List Nat)), (stops p bs).length = bs.length
  | _, [] => rfl
  | p, b :: bs => by simp [stops, stops_len (p + b.length + 2) bs]
theorem at_pos (pre post : List Nat) : subAt (tx (pre ++ 13 :: 10 :: post)) crlf pre.length = true := by
  have := ext_mid pre [13, 10] post
  unfold subAt
  show ((pre ++ 13 :: 10 :: post).toArray.extract pre.length (pre.length + 2) == #[13, 10]) = true
  rw [show pre ++ 13 :: 10 :: post = pre ++ [13, 10] ++ post by simp, show (2 : Nat) = [13, 10].length from rfl, this]
  rfl
theorem at_not {l : List Nat} {i : Nat} (h : l.getD i 0 ≠ 13) : subAt (tx l) crlf i = false := by
  unfold subAt
  show (l.toArray.extract i (i + 2) == #[13, 10]) = false
  rw [List.extract_toArray]
  cases hb : ((l.drop i).take (i + 2 - i)).toArray == #[13, 10] with
  | false => simpa using hb
  | true =>
    exfalso
    have e : (l.drop i).take (i + 2 - i) = [13, 10] := by simpa using hb
    have e2 : ((l.drop i).take (i + 2 - i))[0]? = some 13 := by rw [e]; rfl
    rw [List.getElem?_take_of_lt (by omega), List.getElem?_drop] at e2
    apply h
    rw [List.getD_eq_getElem?_getD]
    rw [Nat.add_zero] at e2
    rw [e2]; rfl
theorem lines_two (b : List Nat) (bs : List (List Nat)) : lines [13, 10] (b :: bs) = b ++ 13 :: 10 :: lines [13, 10] bs := by rw [lines_cons]; simp

theorem occ_lines (hi limit : Nat) : ∀ (bs : List (List Nat)) (pre : List Nat) (found : Array Nat) (free : Nat), (∀ b ∈ bs, clean b) → hi = pre.length + (lines [13, 10] bs).length → free ≤ pre.length → found.size + bs.length ≤ limit →
    (forIn (List.range' pre.length (hi + 1 - pre.length)) (found, free) (occBody (tx (pre ++ lines [13, 10] bs)) crlf hi limit)).run.fst.toList = found.toList ++ stops pre.length bs
  | [], pre, found, free, _, hhi, hf, _ => by
    have : hi + 1 - pre.length = 1 := by simp [lines] at hhi; omega
    rw [this, occ_skip]
    · simp [stops]
    · intro i hi'
      have : i = pre.length := by simpa using hi'
      subst this
      refine at_not ?_
      simp [lines, List.getD_eq_getElem?_getD]
  | b :: bs, pre, found, free, hc, hhi, hf, hlim => by
    have hb := hc b (.head _)
    have hlen : (lines [13, 10] (b :: bs)).length = b.length + 2 + (lines [13, 10] bs).length := by rw [lines_two]; simp; omega
    have hsplit : List.range' pre.length (hi + 1 - pre.length) = List.range' pre.length b.length ++ ([pre.length + b.length] ++ ([pre.length + b.length + 1] ++ List.range' (pre.length + b.length + 2) (hi + 1 - (pre.length + b.length + 2)))) := by
      rw [show hi + 1 - pre.length = b.length + (1 + (1 + (hi + 1 - (pre.length + b.length + 2)))) by omega]
      rw [← List.range'_append_1, ← List.range'_append_1, ← List.range'_append_1]
      simp [Nat.add_assoc]
    rw [hsplit, forIn_append' _ (occ_yield _ _ _ _)]
    have htxt : pre ++ lines [13, 10] (b :: bs) = (pre ++ b) ++ 13 :: 10 :: lines [13, 10] bs := by rw [lines_two, List.append_assoc]
    have sk1 := occ_skip (tx (pre ++ lines [13, 10] (b :: bs))) crlf hi limit (List.range' pre.length b.length) (found, free) (by
      intro i hi'
      rw [List.mem_range'_1] at hi'
      refine at_not ?_
      rw [htxt, List.getD_eq_getElem?_getD, List.getElem?_append_left (by rw [List.length_append]; omega), List.getElem?_append_right hi'.1, List.getElem?_eq_getElem (by omega)]
      exact (hb _ (List.getElem_mem _)).2)
    rw [sk1]
    rw [forIn_append' _ (occ_yield _ _ _ _)]
    have hat := at_pos (pre ++ b) (lines [13, 10] bs)
    rw [← htxt, List.length_append] at hat
    have step : (forIn [pre.length + b.length] (found, free) (occBody (tx (pre ++ lines [13, 10] (b :: bs))) crlf hi limit)).run = (found.push (pre.length + b.length), pre.length + b.length + 2) := by
      have : occBody (tx (pre ++ lines [13, 10] (b :: bs))) crlf hi limit (pre.length + b.length) (found, free) = pure (ForInStep.yield (found.push (pre.length + b.length), pre.length + b.length + 2)) := by
        unfold occBody
        refine if_pos ⟨⟨⟨?_, ?_⟩, ?_⟩, hat⟩
        · show found.size < limit
          rw [List.length_cons] at hlim; omega
        · show free ≤ _; omega
        · show _ + 2 ≤ _; omega
      rw [List.forIn_cons, this]; rfl
    have sk2 := occ_skip (tx (pre ++ lines [13, 10] (b :: bs))) crlf hi limit [pre.length + b.length + 1] (found.push (pre.length + b.length), pre.length + b.length + 2) (by
      intro i hi'
      rw [List.mem_singleton] at hi'
      subst hi'
      refine at_not ?_
      rw [htxt, List.getD_eq_getElem?_getD, List.getElem?_append_right (by rw [List.length_append]; omega), List.length_append]
      rw [show pre.length + b.length + 1 - (pre.length + b.length) = 1 by omega]
      simp)
    rw [step, forIn_append' _ (occ_yield _ _ _ _), sk2]
    have ih := occ_lines hi limit bs (pre ++ b ++ [13, 10]) (found.push (pre.length + b.length)) (pre.length + b.length + 2) (fun c hc' => hc c (.tail _ hc')) (by simp only [List.length_append, List.length_cons, List.length_nil]; omega) (by simp only [List.length_append, List.length_cons, List.length_nil]; omega) (by simp only [Array.size_push, List.length_cons] at hlim ⊢; omega)
    have e1 : pre ++ b ++ [13, 10] ++ lines [13, 10] bs = pre ++ lines [13, 10] (b :: bs) := by rw [htxt]; simp
    have e2 : (pre ++ b ++ [13, 10]).length = pre.length + b.length + 2 := by simp [Nat.add_assoc]
    rw [e1, e2] at ih
    rw [ih]
    simp [stops]
theorem parts_lines (len : Nat) : ∀ (bs : List (List Nat)) (pre : List Nat), len = pre.length + (lines [13, 10] bs).length →
    ((pre.length :: (stops pre.length bs).map (· + 2)).zip (stops pre.length bs ++ [len])).map (fun (i, j) => strSub (tx (pre ++ lines [13, 10] bs)) i j) = bs.map tx ++ [tx []]
  | [], pre, h => by
    simp only [stops, lines, List.map_nil, List.flatten_nil, List.nil_append, List.length_nil, Nat.add_zero] at h ⊢
    subst h
    simp [strSub, tx]
  | b :: bs, pre, h => by
    have htxt : pre ++ lines [13, 10] (b :: bs) = pre ++ b ++ (13 :: 10 :: lines [13, 10] bs) := by rw [lines_two, List.append_assoc]
    have ih := parts_lines len bs (pre ++ b ++ [13, 10]) (by rw [lines_two] at h; simp at h ⊢; omega)
    have e1 : pre ++ b ++ [13, 10] ++ lines [13, 10] bs = pre ++ lines [13, 10] (b :: bs) := by rw [htxt]; simp
    have e2 : (pre ++ b ++ [13, 10]).length = pre.length + b.length + 2 := by simp [Nat.add_assoc]
    rw [e1, e2] at ih
    show _ = tx b :: (bs.map tx ++ [tx []])
    rw [← ih]
    simp only [stops, List.map_cons, List.cons_append, List.zip_cons_cons]
    congr 1
    show (⟨(pre ++ lines [13, 10] (b :: bs)).toArray.extract pre.length (pre.length + b.length)⟩ : Str) = ⟨b.toArray⟩
    rw [htxt, ext_mid]
theorem split_lines {bs : List (List Nat)} (hne : bs ≠ []) (hc : ∀ b ∈ bs, clean b) : Txt.split (tx (lines [13, 10] bs)) crlf = bs.map tx ++ [tx []] ∧ (partsBetween (tx (lines [13, 10] bs)) (occurrences (tx (lines [13, 10] bs)) crlf 0 (tx (lines [13, 10] bs)).length ((tx (lines [13, 10] bs)).length + 1)) crlf.length).length = bs.length + 1 := by
  have hl : (tx (lines [13, 10] bs)).length = (lines [13, 10] bs).length := tx_len _
  have hbl : ∀ bs : List (List Nat), 2 * bs.length ≤ (lines [13, 10] bs).length := fun bs => by
    induction bs with
    | nil => simp
    | cons b bs ih => rw [lines_two]; simp; omega
  have hpos : 0 < bs.length := List.length_pos_iff.mpr hne
  have hb2 := hbl bs
  have ho : occurrences (tx (lines [13, 10] bs)) crlf 0 (tx (lines [13, 10] bs)).length ((tx (lines [13, 10] bs)).length + 1) = stops 0 bs := by
    rw [occ_eq]
    have := occ_lines (tx (lines [13, 10] bs)).length ((tx (lines [13, 10] bs)).length + 1) bs [] #[] 0 hc (by simp [hl]) (by simp) (by rw [hl]; simp; omega)
    simpa using this
  have hp : partsBetween (tx (lines [13, 10] bs)) (occurrences (tx (lines [13, 10] bs)) crlf 0 (tx (lines [13, 10] bs)).length ((tx (lines [13, 10] bs)).length + 1)) crlf.length = bs.map tx ++ [tx []] := by
    rw [ho]
    have := parts_lines (tx (lines [13, 10] bs)).length bs [] (by simp [hl])
    exact this
  refine ⟨?_, by rw [hp]; simp⟩
  unfold Txt.split
  have h1 : (decide ((tx (lines [13, 10] bs)).length < crlf.length) || decide (Builtin.Str.strKind (tx (lines [13, 10] bs)) < Builtin.Str.strKind crlf)) = false := by
    have k1 : Builtin.Str.strKind crlf = 1 := by decide +kernel
    have k2 : 1 ≤ Builtin.Str.strKind (tx (lines [13, 10] bs)) := by
      unfold Builtin.Str.strKind
      split
      · decide
      · split <;> decide
    have k3 : crlf.length = 2 := rfl
    rw [k1, k3, hl]
    simp; omega
  have h2 : (occurrences (tx (lines [13, 10] bs)) crlf 0 (tx (lines [13, 10] bs)).length ((tx (lines [13, 10] bs)).length + 1)).isEmpty = false := by
    rw [ho]
    cases bs with
    | nil => exact absurd rfl hne
    | cons b bs => rfl
  rw [h1, h2, if_neg Bool.false_ne_true, if_neg Bool.false_ne_true]
  exact hp
end Mine
end

section
set_option maxRecDepth 100000
set_option Elab.async false
set_option maxHeartbeats 1000000
set_option linter.unusedVariables false
open PySem PySem.Sre PySem.Calls PySem.W PyProof.Rows
namespace Mine
section
variable {prog : Program} {w : World} {A : Around} {s : Shared} {env : Env} {E : Value → Shared → Prop}

theorem newEnv_one {scope : Scope} {g : Addr} {cl : List (Str × Addr)} {q : Str} {x : Str} {Q : Env → Shared → Prop}
    (hc1 : ∀ n, cellsFrom n scope.names cl = (x, n) :: cl) (hc2 : ∀ h : Heap, pushCells h scope.names = h.push { cls := .type "cell", data := .cell none })
    (h : Q { scope := scope, locals := s.heap.objs.size, globals := g, cells := (x, s.heap.objs.size + 1) :: cl, qual := q, func := none, code := env.code, frame := env.frame, builtins := env.builtins }
      { s with heap := (s.heap.push { cls := .type "dict", data := .dict #[] }).push { cls := .type "cell", data := .cell none } }) :
    wpAny (model prog w) A (newFunctionEnv scope g cl [] q none .none (some env)) Q E s := by
  simp only [newFunctionEnv, Option.isSome_some, if_true]
  refine wpAny_bind (wpAny_alloc ?_)
  refine wpAny_bind (wpAny_layCells _ (fun name kind cells => by cases hkc : kind == NameKind.cell <;> simp [hkc]) _ _ _ _ ?_)
  have e1 := hc1 (s.heap.push { cls := .type "dict", data := .dict #[] }).objs.size
  rw [Heap.size_push] at e1
  show wpAny _ A _ _ E _
  dsimp only
  rw [Heap.size_push, e1, hc2]
  refine wpAny_bind ?_
  rw [List.forIn_nil]
  exact wpAny_pure (wpAny_pure h)

theorem comp_run1 {n : Nat} {P : Nat → Obj → Prop} {side : Heap → Prop} {val : Nat → Value → Prop} (I : IterK prog w n P side val) {elt iter : Expr} {x : Str} {px : Pos} {ifs : List Expr} {scope : Scope} {cl : List (Str × Addr)} {pos : Pos}
    (J : Nat → List Value → Cells → Prop) {RR : Value → Addr → Result → Shared → Prop} {it : Addr} {h₂ : Heap} {t₂ : Nat} {cs : Cells}
    (hh : A.handled = none) (hc1 : ∀ n, cellsFrom n scope.names cl = (x, n) :: cl) (hc2 : ∀ h : Heap, pushCells h scope.names = h.push { cls := .type "cell", data := .cell none }) (hkind : scope.kind = .function) (hx : (relabel scope env).names.lookup x = some .cell)
    (hside : ∀ C k ys m cs h, J k ys cs → Own s.heap C m cs h → side h) (hlen : ∀ k ys cs, J k ys cs → ys.length ≤ sizeLine)
    (turn : ∀ C c it acc k v ys cs h t m, k < n → val k v → J k ys cs → Own s.heap C m ((acc, isL ys) :: (it, P (k + 1)) :: (c, isCell (some v)) :: cs) h →
      compTest prog w A ifs (compEnvC scope ((x, c) :: cl) C env) (fun ok s₃ => if ok = true then wpAny (model prog w) A (eval elt (compEnvC scope ((x, c) :: cl) C env)) (fun y s₄ => ∃ h' t' m' cs', s₄ = { s with heap := h', toks := t' } ∧ Own s.heap C m' ((acc, isL ys) :: (it, P (k + 1)) :: (c, isCell (some v)) :: cs') h' ∧ J (k + 1) (ys ++ [y]) cs') (fun _ _ => False) s₃
        else ∃ h' t' m' cs', s₃ = { s with heap := h', toks := t' } ∧ Own s.heap C m' ((acc, isL ys) :: (it, P (k + 1)) :: (c, isCell (some v)) :: cs') h' ∧ J (k + 1) ys cs') (fun _ _ => False) { s with heap := h, toks := t })
    (fin : ∀ C acc m ys cs h t, J n ys cs → Own s.heap C m ((acc, isL ys) :: cs) h → RR (.ref acc) C (.ok .next) { s with heap := h, toks := t })
    (B : Begun s.heap it (P 0) cs h₂) (hJ : J 0 [] cs) :
    wpAny (model prog w) A (newList []) (fun acc s₃ => wpAny (model prog w) A (newFunctionEnv scope env.globals cl [] env.qual none .none (some env)) (fun cenv s₄ =>
      codeAny (model prog w) A (.compStart (.ListComp elt [⟨.Name x px, iter, ifs, 0⟩] scope pos) 0 (.ref it) acc { cenv with scope := relabel scope env }) (RR acc cenv.locals) s₄) E s₃) E { s with heap := h₂, toks := t₂ } := by
  have F := B.fresh.push { cls := .type "list", dict := none, data := .seq ([] : List Value).toArray } (P := isL []) ⟨0, rfl⟩
  refine wpAny_newObj_type (newEnv_one hc1 hc2 ?_)
  dsimp only
  generalize hH : h₂.push { cls := .type "list", dict := none, data := .seq ([] : List Value).toArray } = H at F ⊢
  have hle : s.heap.objs.size ≤ H.objs.size := by rw [← hH, Heap.size_push]; exact Nat.le_succ_of_le B.size
  have hk : Keeps H (H.push { cls := .type "dict", data := .dict #[] }) := fun b o e => Heap.get?_push_of_some _ e
  have O : Own s.heap H.objs.size (fun _ => none) ((h₂.objs.size, isL []) :: (it, P 0) :: cs) (H.push { cls := .type "dict", data := .dict #[] }) :=
    ⟨⟨Heap.Ns.new H (.type "dict"), Keeps.trans F.keep hk, hle⟩, fun p hp => ⟨let ⟨o, e, q⟩ := (F.own p hp).1; ⟨o, hk _ _ e, q⟩, fun z => by
      obtain ⟨o, e, _⟩ := (F.own p hp).1
      exact Nat.ne_of_lt (Heap.lt_size e) z, (F.own p hp).2⟩, F.nd⟩
  have O := O.push { cls := .type "cell", data := .cell none } (P := isCell none) rfl
  rw [Heap.size_push] at O
  have O := O.perm (cs' := (h₂.objs.size, isL []) :: (it, P 0) :: ([(H.objs.size + 1, isCell none)] ++ cs)) (((List.Perm.swap _ _ _).cons _).trans (List.Perm.swap _ _ _))
  have loop : ∀ t₃, codeAny (model prog w) A (.compLoop (.ListComp elt [⟨.Name x px, iter, ifs, 0⟩] scope pos) 0 (.ref it) (.ref h₂.objs.size) (compEnvC scope ((x, H.objs.size + 1) :: cl) H.objs.size env)) (RR (.ref h₂.objs.size) H.objs.size)
      { s with heap := (H.push { cls := .type "dict", data := .dict #[] }).push { cls := .type "cell", data := .cell none }, toks := t₃ } := fun t₃ =>
    comp_loop (cenv := compEnvC scope ((x, H.objs.size + 1) :: cl) H.objs.size env) I (fun u => [(H.objs.size + 1, isCell u)]) (fun _ _ => True) J hh
      (fun u v m cs h t K E' O h => st_cell O (fun h' O' => h h' t m O' trivial) (by simp [compEnvC]) (by exact hkind) hx)
      (fun k ys m cs h hJ O => hside _ k ys m cs h hJ O) hlen (fun k v ys cs h t m hk hv hJ _ O => turn _ _ _ _ k v ys cs h t m hk hv hJ O)
      (fun ys cs m u h t hJ O => fin _ _ m ys cs h t hJ (O.sub (.cons_cons _ (.cons _ (List.Sublist.refl _))))) (u := none) O hJ
  exact codeAny_compStart_list (loop _) (I.self (O.get 1 rfl) (loop _))

theorem comp_eval1 {n : Nat} {P : Nat → Obj → Prop} {side : Heap → Prop} {val : Nat → Value → Prop} (I : IterK prog w n P side val) {elt iter : Expr} {x : Str} {px : Pos} {ifs : List Expr} {scope : Scope} {cl : List (Str × Addr)} {pos : Pos} {Q : Value → Shared → Prop}
    (J : Nat → List Value → Cells → Prop) (hh : A.handled = none)
    (init : wpAny (model prog w) A (eval iter env) (fun xv s₁ => wpAny (model prog w) A (pyIter xv) (fun itv s₂ => ∃ it h₂ t₂ cs, itv = .ref it ∧ s₂ = { s with heap := h₂, toks := t₂ } ∧ Begun s.heap it (P 0) cs h₂ ∧ J 0 [] cs) (fun _ _ => False) s₁) (fun _ _ => False) s)
    (hside : ∀ C k ys m cs h, J k ys cs → Own s.heap C m cs h → side h) (hlen : ∀ k ys cs, J k ys cs → ys.length ≤ sizeLine)
    (turn : ∀ C c it acc k v ys cs h t m, k < n → val k v → J k ys cs → Own s.heap C m ((acc, isL ys) :: (it, P (k + 1)) :: (c, isCell (some v)) :: cs) h →
      compTest prog w A ifs (compEnvC scope ((x, c) :: cl) C env) (fun ok s₃ => if ok = true then wpAny (model prog w) A (eval elt (compEnvC scope ((x, c) :: cl) C env)) (fun y s₄ => ∃ h' t' m' cs', s₄ = { s with heap := h', toks := t' } ∧ Own s.heap C m' ((acc, isL ys) :: (it, P (k + 1)) :: (c, isCell (some v)) :: cs') h' ∧ J (k + 1) (ys ++ [y]) cs') (fun _ _ => False) s₃
        else ∃ h' t' m' cs', s₃ = { s with heap := h', toks := t' } ∧ Own s.heap C m' ((acc, isL ys) :: (it, P (k + 1)) :: (c, isCell (some v)) :: cs') h' ∧ J (k + 1) ys cs') (fun _ _ => False) { s with heap := h, toks := t })
    (fin : ∀ D ys cs h t, J n ys cs → Fresh s.heap ((D, isL ys) :: cs) h → Q (.ref D) { s with heap := h, toks := t })
    (hclos : closureFor scope env = pure cl := by rfl) (hc1 : ∀ n, cellsFrom n scope.names cl = (x, n) :: cl := by intro _; rfl) (hc2 : ∀ h : Heap, pushCells h scope.names = h.push { cls := .type "cell", data := .cell none } := by intro _; rfl) (hkind : scope.kind = .function := by rfl)
    (hnames : ∀ y ∈ scope.names, y.2 = .local → scope.names.lookup y.1 = some .local := by decide) (hx : (relabel scope env).names.lookup x = some .cell := by rfl)
    (hs : ∀ x, foldedSetIterable iter env x = pure x := by intro _; rfl) :
    wpAny (model prog w) A (eval (.ListComp elt [⟨.Name x px, iter, ifs, 0⟩] scope pos) env) Q E s := by
  rw [eval_ListComp]
  refine wpAny_comprehension_free (use := none) rfl hs hclos hkind hnames (wpAny_mono init (fun xv s₁ h₁ => wpAny_mono h₁ (fun it s₂ h₂ => ?_) fun _ _ e => e.elim) fun _ _ e => e.elim)
  obtain ⟨it, h₂, t₂, cs, rfl, rfl, B, hJ⟩ := h₂
  refine comp_run1 (RR := fun acc C => compPost (model prog w) A E none Q acc C) I J hh hc1 hc2 hkind hx hside hlen turn (fun C acc m ys cs h t hJ O => ?_) B hJ
  refine ⟨m, O.fr.ns, fun h' hs' => fin _ _ _ _ _ hJ (O.fresh.ext hs'.extBut ?_ fun p hp => (O.own p hp).2.1)⟩
  exact Heap.get?_none_of_le O.fr.above
end
end Mine
end

section
set_option maxRecDepth 100000
set_option Elab.async false
set_option maxHeartbeats 1000000
set_option linter.unusedVariables false
open PySem PySem.Sre PySem.Calls PySem.W PyProof.Rows
namespace Mine
theorem Own.setExt {h₀ h h' : Heap} {L : Addr} {m : Loc} {a : Addr} {P P' : Obj → Prop} {cs : Cells} (O : Own h₀ L m ((a, P) :: cs) h) (hs : Heap.ExtBut a h h') (hp : ∃ o, h'.get? a = some o ∧ P' o) : Own h₀ L m ((a, P') :: cs) h' := by
  have O' := O.ext hs
  obtain ⟨_, n1, n2⟩ := O.own _ (.head _)
  refine ⟨O'.fr, fun p hp' => ?_, O.nd⟩
  cases hp' with
  | head => exact ⟨hp, n1, n2⟩
  | tail _ hp' => exact O'.own p hp'
/-- a new object is taken into hand -/
theorem Own.add {h₀ h : Heap} {L : Addr} {m : Loc} {cs : Cells} {a : Addr} {P : Obj → Prop} (O : Own h₀ L m cs h) (e : ∃ o, h.get? a = some o ∧ P o) (n1 : a ≠ L) (n2 : h₀.get? a = none) (n3 : ∀ p ∈ cs, p.1 ≠ a) : Own h₀ L m ((a, P) :: cs) h := by
  refine ⟨O.fr, fun p hp => ?_, ?_⟩
  · cases hp with
    | head => exact ⟨e, n1, n2⟩
    | tail _ hp => exact O.own p hp
  · rw [List.map_cons, List.nodup_cons]
    refine ⟨fun hm => ?_, O.nd⟩
    obtain ⟨p, h1, h2⟩ := List.mem_map.mp hm
    exact n3 p h1 h2

-- the text of a row
theorem at_last (l : List Nat) (a b : Nat) : (seqIndex? (-1) (tx (l ++ [a, b])).length).bind ((tx (l ++ [a, b])).cps[·]?) = some b := by
  have hl : (tx (l ++ [a, b])).length = l.length + 2 := by rw [tx_len]; simp
  have : seqIndex? (-1) (l.length + 2) = some (l.length + 1) := by
    unfold seqIndex?
    simp only [show ((-1 : Int) < 0) from by decide, if_true]
    rw [if_pos (by simp; omega)]
    congr 1; omega
  rw [hl, this]
  show (l ++ [a, b]).toArray[l.length + 1]? = some b
  simp
theorem at_snd (l : List Nat) (a b : Nat) : (seqIndex? (-2) (tx (l ++ [a, b])).length).bind ((tx (l ++ [a, b])).cps[·]?) = some a := by
  have hl : (tx (l ++ [a, b])).length = l.length + 2 := by rw [tx_len]; simp
  have : seqIndex? (-2) (l.length + 2) = some l.length := by
    unfold seqIndex?
    simp only [show ((-2 : Int) < 0) from by decide, if_true]
    rw [if_pos (by simp; omega)]
    congr 1; omega
  rw [hl, this]
  show (l ++ [a, b]).toArray[l.length]? = some a
  simp
theorem idx_but (n : Nat) : Builtin.Str.strSliceIndices none (some (-2)) 1 (n + 2) = List.range n := by
  unfold Builtin.Str.strSliceIndices
  have h2 : max 0 (min (-2 + ((n + 2 : Nat) : Int)) ((n + 2 : Nat) : Int)) = (n : Int) := by omega
  simp only [show (1 : Int) > 0 by decide, if_true, show (-2 : Int) < 0 by decide]
  rw [h2]
  have := sliceRange_one 0 n
  simpa using this
theorem slice_but (l : List Nat) (a b : Nat) (t u : Tok) : sliceMade (tx (l ++ [a, b])) t none (some (-2, u)) none = .str (tx l) := by
  unfold sliceMade slicePicked
  have hl : (tx (l ++ [a, b])).length = l.length + 2 := by rw [tx_len]; simp
  simp only [Option.map_none, Option.map_some, Option.getD_none]
  rw [hl, idx_but]
  rw [if_neg (by simp)]
  congr 1
  show (⟨((List.range l.length).filterMap fun i => (l ++ [a, b]).toArray[i]?).toArray⟩ : Str) = ⟨l.toArray⟩
  congr 2
  have := pick_run (l ++ [a, b]).toArray 0 l.length
  simp only [Nat.zero_add, List.map_id'] at this
  rw [this]
  simp

theorem upper_let : ∀ i, i < 5 → Txt.upper ⟨#[97 + i]⟩ = ⟨#[65 + i]⟩ := by decide +kernel
theorem lower_small : ∀ i, i < 5 → Txt.lower ⟨#[97 + i]⟩ = ⟨#[97 + i]⟩ := by decide +kernel
theorem lower_great : ∀ i, i < 5 → Txt.lower ⟨#[65 + i]⟩ = ⟨#[97 + i]⟩ := by decide +kernel
theorem clean_small : ∀ i, i < 5 → clN (97 + i) = false := by decide +kernel
theorem clean_great : ∀ i, i < 5 → clN (65 + i) = false := by decide +kernel
theorem clean_dot : clV 46 = false := by decide +kernel
theorem in_bd : ∀ j, j < 5 → decide ((97 + j) ∈ (Str.ofString "bd").cps.toList) = (j % 2 == 1) := by decide +kernel
def great (j : Nat) : Bool := j % 2 == 1
/-- the name and the dots of a row -/
def rname (st p : Nat) : Str := if great (p / 5) then ⟨#[65 + (st + p % 5) % 5]⟩ else ⟨#[97 + (st + p % 5) % 5]⟩
def rdots (M : Nat → Nat → Int) (T i j : Nat) : Nat := T + (4 + M i j).toNat
def rpair (M : Nat → Nat → Int) (st T p : Nat) : Str × Str := (rname st p, tx (List.replicate (rdots M T ((st + p % 5) % 5) (p / 5)) 46))
theorem rname_lower (st p : Nat) : Txt.lower (rname st p) = ⟨#[97 + (st + p % 5) % 5]⟩ := by
  unfold rname
  split
  · exact lower_great _ (by omega)
  · exact lower_small _ (by omega)
theorem rname_len (st p : Nat) : (rname st p).length = 1 := by unfold rname; split <;> rfl
theorem rname_clean (st p : Nat) : ∀ c ∈ (rname st p).cps.toList, clN c = false := by
  intro c hc
  unfold rname at hc
  split at hc
  · have : c = 65 + (st + p % 5) % 5 := by simpa using hc
    rw [this]; exact clean_great _ (by omega)
  · have : c = 97 + (st + p % 5) % 5 := by simpa using hc
    rw [this]; exact clean_small _ (by omega)
theorem places_of : ∀ st, st < 5 → ∀ i, i < 5 → (List.range 25).filter (fun p => (st + p % 5) % 5 == i) = (List.range 5).map fun j => 5 * j + (i + 5 - st) % 5 := by decide
theorem told_rows (M : Nat → Nat → Int) {st T i : Nat} (hst : st < 5) (hi : i < 5) {nm : Str} (hn : Txt.lower nm = ⟨#[97 + i]⟩) :
    told ((List.range 25).map (rpair M st T)) nm = (List.range 5).map fun j => tx (List.replicate (rdots M T i j) 46) := by
  unfold told
  rw [List.filter_map]
  have e : ((fun p : Str × Str => Txt.lower p.1 == Txt.lower nm) ∘ rpair M st T) = fun p => (st + p % 5) % 5 == i := by
    funext p
    show (Txt.lower (rname st p) == Txt.lower nm) = _
    rw [rname_lower, hn, Bool.eq_iff_iff, beq_iff_eq, beq_iff_eq]
    constructor
    · intro h
      have := congrArg (fun x : Str => x.cps.toList) h
      simpa using this
    · intro h; rw [h]
  rw [e, places_of st hst i hi, List.map_map, List.map_map]
  apply List.map_congr_left
  intro j hj
  rw [List.mem_range] at hj
  show tx (List.replicate (rdots M T ((st + (5 * j + (i + 5 - st) % 5) % 5) % 5) ((5 * j + (i + 5 - st) % 5) / 5)) 46) = _
  have h1 : (5 * j + (i + 5 - st) % 5) / 5 = j := by omega
  have h2 : (st + (5 * j + (i + 5 - st) % 5) % 5) % 5 = i := by omega
  rw [h1, h2]
end Mine
end

section
set_option maxRecDepth 100000
set_option Elab.async false
set_option maxHeartbeats 1000000
set_option linter.unusedVariables false
open PySem PySem.Sre PySem.Calls PySem.W PyProof.Rows
namespace Mine
theorem Ok.under1 {A : Around} {n : Nat} (k : Ok A (n + 1)) {c : Code} (hw : c.weight ≤ 1) (hu : c.cUnits ≤ 4) : Ok (A.under c) n := by
  refine ⟨k.hd, ?_, ?_⟩
  · have := k.depth; show A.depth + c.weight + n < _; omega
  · have := k.units; show A.units + c.cUnits + 4 * n + 8 < _; omega
theorem crlf_lit : Str.ofString "\x0d\n" = crlf := by decide +kernel
theorem strsAre_values : ∀ l : List (Str × Tok), StrsAre (strValues l) (l.map (·.1))
  | [] => .nil
  | (x, t) :: l => .cons x t (strsAre_values l)
theorem mrow_shape (M : Nat → Nat → Int) (st T p : Nat) : mrow M st T p = List.replicate (rdots M T ((st + p % 5) % 5) (p / 5)) 46 ++ [97 + (st + p % 5) % 5, 97 + p / 5] := rfl
theorem mrow_clean (M : Nat → Nat → Int) (st T p : Nat) : clean (mrow M st T p) := by
  intro c hc
  rw [mrow_shape] at hc
  rcases List.mem_append.mp hc with hc | hc
  · rw [List.mem_replicate] at hc; omega
  · simp only [List.mem_cons, List.not_mem_nil, or_false] at hc; omega
def isPair (p : Str × Str) (o : Obj) : Prop := ∃ u1 u2, isTup [.str p.1 u1, .str p.2 u2] o
def pcells (P : Nat → Str × Str) (tups : List Addr) : Cells := (List.range tups.length).map fun i => (tups.getD i 0, isPair (P i))
theorem pcells_snoc (P : Nat → Str × Str) (tups : List Addr) (a : Addr) : pcells P (tups ++ [a]) = pcells P tups ++ [(a, isPair (P tups.length))] := by
  unfold pcells
  rw [List.length_append, List.length_singleton, List.range_succ, List.map_append]
  congr 1
  · apply List.map_congr_left
    intro i hi
    rw [List.mem_range] at hi
    rw [List.getD_eq_getElem?_getD, List.getD_eq_getElem?_getD, List.getElem?_append_left hi]
  · simp [List.getD_eq_getElem?_getD]
def gcells (F : Nat → Obj → Prop) (as : List Addr) : Cells := (List.range as.length).map fun i => (as.getD i 0, F i)
theorem gcells_snoc (F : Nat → Obj → Prop) (as : List Addr) (a : Addr) : gcells F (as ++ [a]) = gcells F as ++ [(a, F as.length)] := by
  unfold gcells
  rw [List.length_append, List.length_singleton, List.range_succ, List.map_append]
  congr 1
  · apply List.map_congr_left
    intro i hi
    rw [List.mem_range] at hi
    rw [List.getD_eq_getElem?_getD, List.getD_eq_getElem?_getD, List.getElem?_append_left hi]
  · simp [List.getD_eq_getElem?_getD]
theorem gcells_get {F : Nat → Obj → Prop} {as : List Addr} {i : Nat} (h : i < as.length) : (as.getD i 0, F i) ∈ gcells F as := List.mem_map.mpr ⟨i, List.mem_range.mpr h, rfl⟩
/-- an object that a call made anew -/
theorem Own.new {h₀ h h' : Heap} {L : Addr} {m : Loc} {cs : Cells} {a : Addr} {P : Obj → Prop} (O : Own h₀ L m cs h) (k : Keeps h h') (n : h.get? a = none) (e : ∃ o, h'.get? a = some o ∧ P o) : Own h₀ L m ((a, P) :: cs) h' := by
  refine (O.keeps k).add e ?_ ?_ ?_
  · obtain ⟨o, _, _, ho, _⟩ := O.fr.ns
    intro z; rw [z] at n
    exact absurd (n.symm.trans ho) (by simp)
  · cases hq : h₀.get? a with
    | none => rfl
    | some o => exact absurd (n.symm.trans (O.keep _ _ hq)) (by simp)
  · intro p hp z
    obtain ⟨o, e', _⟩ := (O.own p hp).1
    rw [z] at e'
    exact absurd (n.symm.trans e') (by simp)
def isStrs (xs : List Str) (o : Obj) : Prop := ∃ ys, isW ys o ∧ StrsAre ys xs
def prow (M : Nat → Nat → Int) (T i : Nat) : List Str := (List.range 5).map fun j => tx (List.replicate (rdots M T i j) 46)
theorem letters5 : (Str.ofString "ABCDE").cps.size = 5 ∧ (∀ k, k < 5 → (Str.ofString "ABCDE").cps[k]? = some (65 + k)) ∧ (Str.ofString "ABCDE").cps.all (· < 128) = true := by decide +kernel
theorem rows_of {h : Heap} {M : Nat → Nat → Int} {st T : Nat} {tups : List Addr} (hl : tups.length = 25) (H : ∀ p ∈ pcells (rpair M st T) tups, ∃ o, h.get? p.1 = some o ∧ p.2 o) : RowsAt h (tups.map .ref) ((List.range 25).map (rpair M st T)) := by
  refine ⟨by simp [hl], fun k v p hv hp => ?_⟩
  rw [List.getElem?_map] at hv hp
  obtain ⟨a, ha, rfl⟩ := Option.map_eq_some_iff.mp hv
  obtain ⟨q, hq, rfl⟩ := Option.map_eq_some_iff.mp hp
  have hk : k < tups.length := by
    rcases List.getElem?_eq_some_iff.mp ha with ⟨h, _⟩; exact h
  rw [List.getElem?_range (by omega)] at hq
  cases hq
  obtain ⟨o, e, u1, u2, hT⟩ := H (tups.getD k 0, isPair (rpair M st T k)) (List.mem_map.mpr ⟨k, List.mem_range.mpr hk, rfl⟩)
  have : tups.getD k 0 = a := by rw [List.getD_eq_getElem?_getD, ha]; rfl
  exact ⟨a, u1, u2, rfl, o, this ▸ e, hT⟩
def dots (M : Nat → Nat → Int) (T i j : Nat) : Str := tx (List.replicate (rdots M T i j) 46)
def pv (M : Nat → Nat → Int) (T i j : Nat) : Int := (rdots M T i j : Int) + 3 * ((if (dots M T j i).cps.toList < (dots M T i j).cps.toList then 1 else 0) - (if (dots M T i j).cps.toList < (dots M T j i).cps.toList then 1 else 0))
theorem prow_at (M : Nat → Nat → Int) (T i : Nat) {j : Nat} (hj : j < 5) : (prow M T i)[j]? = some (dots M T i j) := by
  unfold prow
  rw [List.getElem?_map, List.getElem?_range hj]; rfl
theorem isStrs.at_ {xs : List Str} {h : Heap} {a : Addr} {j : Nat} {x : Str} (H : ∃ o, h.get? a = some o ∧ isStrs xs o) (hx : xs[j]? = some x) : ∃ o ys t, h.get? a = some o ∧ isW ys o ∧ ys[j]? = some (.str x t) := by
  obtain ⟨o, e, ys, hw, hS⟩ := H
  obtain ⟨t, ht⟩ := hS.get j x hx
  exact ⟨o, ys, t, e, hw, ht⟩
section
variable {prog : Program} {w : World} {A : Around} {s : Shared} {E : Value → Shared → Prop}

/-- a slice of a list that may be a temporary -/
theorem sub_slice {env : Env} {value : Expr} {lower upper : Option Expr} {p pos : Pos} {Q : Value → Shared → Prop}
    (h : wpAny (model prog w) A (eval value env) (fun o s₁ => wpAny (model prog w) A (evalPart lower env) (fun vl s₂ => wpAny (model prog w) A (evalPart upper env) (fun vu s₃ =>
      ∃ l items lo hi, o = .ref l ∧ s₃.heap.IsList l items ∧ items.size ≤ sizeLine ∧ IsPart vl lo ∧ IsPart vu hi ∧
        Q (.ref (s₃.heap.objs.size + 1)) { s₃ with heap := (s₃.heap.push { cls := .type "slice", data := .fields #[vl, vu, .none] }).push { cls := .type "list", data := .seq (slicePick items lo hi none) } }) E s₂) E s₁) E s) :
    wpAny (model prog w) A (eval (.Subscript value (.Slice lower upper none p) pos) env) Q E s := by
  refine Subscript_ (wpAny_mono h (fun o s₁ h₁ => wpAny_Slice (wpAny_mono h₁ (fun vl s₂ h₂ => wpAny_mono h₂ (fun vu s₃ h₃ => ?_) fun _ _ e => e) fun _ _ e => e)) fun _ _ e => e)
  obtain ⟨l, items, lo, hi, rfl, hl, hsz, pl, pu, hQ⟩ := h₃
  refine wpAny_evalPart_none ?_
  have hl' := hl.push { cls := .type "slice", data := .fields #[vl, vu, .none] }
  generalize hH : s₃.heap.push { cls := .type "slice", data := .fields #[vl, vu, .none] } = H at hl' hQ ⊢
  have hsz2 : H.objs.size = s₃.heap.objs.size + 1 := by rw [← hH, Heap.size_push]
  have hsl : H.IsSliceOf s₃.heap.objs.size vl vu .none := hH ▸ Heap.IsSliceOf.new ..
  have fin : ∀ i, i = Value.ref s₃.heap.objs.size → wpAny (model prog w) A (operate [i, .ref l] (getItem (.ref l) i)) (fun r s₄ => wpAny (model prog w) A (letTemporaryGo value (.ref l) r >>= fun _ => pure r) Q E s₄) E { s₃ with heap := H } := by
    rintro i rfl
    refine wpAny_operating (wpAny_getItem_list_slice hl' hsl pl pu .none (by simp) ?_ hsz)
    refine wpAny_bind (wpAny_letTemporaryGo (wpAny_pure ?_))
    show Q (.ref H.objs.size) _
    rw [hsz2]
    exact hQ
  have hT : Shared.TypeIs { s₃ with heap := H } (.ref l) "list" := hl'.typeIs
  show wpAny _ A (getitemInPython (.ref l) >>= fun b => subscripted (.Slice lower upper none p) b (.ref l) (.ref s₃.heap.objs.size) >>= fun r => letTemporaryGo value (.ref l) r >>= fun _ => pure r) Q E _
  refine wpAny_bind ?_
  rw [getitemInPython_of_ne hT.not_modules]
  exact wpAny_bind (wpAny_specialOf hT list_getitem_lookup (wpAny_pure (wpAny_bind (fin _ rfl))))
theorem o_slice {env : Env} {value : Expr} {lower upper : Option Expr} {p pos : Pos} {Q : Value → Shared → Prop} {h₀ : Heap} {L : Addr}
    (h : wpAny (model prog w) A (eval value env) (fun o s₁ => wpAny (model prog w) A (evalPart lower env) (fun vl s₂ => wpAny (model prog w) A (evalPart upper env) (fun vu s₃ =>
      ∃ l its lo hi m cs, o = .ref l ∧ s₃.heap.IsList l (List.toArray its) ∧ its.length ≤ sizeLine ∧ IsPart vl lo ∧ IsPart vu hi ∧ Own h₀ L m cs s₃.heap ∧
        ∀ a h' t', s₃.heap.objs.size ≤ a → Own h₀ L m ((a, isL (slicePick its.toArray lo hi none).toList) :: cs) h' → Keeps s₃.heap h' → Q (.ref a) { s₃ with heap := h', toks := t' }) E s₂) E s₁) E s) :
    wpAny (model prog w) A (eval (.Subscript value (.Slice lower upper none p) pos) env) Q E s := by
  refine sub_slice (wpAny_mono h (fun o s₁ h₁ => wpAny_mono h₁ (fun vl s₂ h₂ => wpAny_mono h₂ (fun vu s₃ h₃ => ?_) fun _ _ e => e) fun _ _ e => e) fun _ _ e => e)
  obtain ⟨l, its, lo, hi, m, cs, rfl, hl, hsz, pl, pu, O, hq⟩ := h₃
  refine ⟨l, _, lo, hi, rfl, hl, by simpa using hsz, pl, pu, ?_⟩
  have O := (O.push { cls := .type "slice", data := .fields #[vl, vu, .none] } (P := fun _ => True) trivial).push { cls := .type "list", data := .seq (slicePick its.toArray lo hi none) } (P := isL (slicePick its.toArray lo hi none).toList) ⟨0, by simp⟩
  rw [Heap.size_push] at O
  exact hq _ _ s₃.toks (Nat.le_succ _) (O.swap.drop) (fun b o e => Heap.get?_push_of_some _ (Heap.get?_push_of_some _ e))
theorem o_str_slice {env : Env} {value : Expr} {lower upper : Option Expr} {p pos : Pos} {Q : Value → Shared → Prop} {h₀ : Heap} {L : Addr}
    (h : wpAny (model prog w) A (eval value env) (fun o s₁ => wpAny (model prog w) A (evalPart lower env) (fun vl s₂ => wpAny (model prog w) A (evalPart upper env) (fun vu s₃ =>
      ∃ x t l u m cs r, o = .str x t ∧ vl = partValue l ∧ vu = partValue u ∧ Own h₀ L m cs s₃.heap ∧ sliceMade x t l u none = .str r ∧ r.length ≤ sizeLine ∧
        ∀ h' t' tk, Own h₀ L m cs h' → Keeps s₃.heap h' → Q (.str r tk) { s₃ with heap := h', toks := t' }) E s₂) E s₁) E s)
    (ht : ∀ o r, letTemporaryGo value o r = pure () := by intro _ _; rfl) :
    wpAny (model prog w) A (eval (.Subscript value (.Slice lower upper none p) pos) env) Q E s := by
  refine wpAny_Subscript_str_slice (wpAny_mono h (fun o s₁ h₁ => wpAny_mono h₁ (fun vl s₂ h₂ => wpAny_mono h₂ (fun vu s₃ h₃ => ?_) fun _ _ e => e) fun _ _ e => e) fun _ _ e => e) ht
  obtain ⟨x, t, l, u, m, cs, r, rfl, rfl, rfl, O, e, hr, hq⟩ := h₃
  refine ⟨x, t, l, u, rfl, rfl, rfl, ?_⟩
  rw [e]
  exact ⟨hr, hq _ _ _ ((O.push _ (P := fun _ => True) trivial).drop) (fun b o e => Heap.get?_push_of_some _ e)⟩
/-- a for-loop from its iterator on -/
theorem for_core {env : Env} {n : Nat} {P : Nat → Obj → Prop} {side : Heap → Prop} {val : Nat → Value → Prop} (I : IterK prog w n P side val) {x : Str} {px : Pos} {body : List Stmt} {h₀ : Heap} {L : Addr} (J : Nat → Loc → Cells → Prop) {R : Result → Shared → Prop} {it : Addr} {h₂ : Heap} {t₂ : Nat} {m : Loc} {cs : Cells}
    (hh : A.handled = none) (hside : ∀ k m cs h, J k m cs → Own h₀ L m cs h → side h)
    (turn : ∀ k v m cs h t, k < n → val k v → J k m cs → Own h₀ L (upd m x v) ((it, P (k + 1)) :: cs) h →
      wpAny (model prog w) A (execs body env) (fun f s' => (f = .next ∨ f = .cont) ∧ ∃ h' t' m' cs', s' = { s with heap := h', toks := t' } ∧ Own h₀ L m' ((it, P (k + 1)) :: cs') h' ∧ J (k + 1) m' cs') (fun _ _ => False) { s with heap := h, toks := t })
    (fin : ∀ m cs h t, J n m cs → Own h₀ L m cs h → R (.ok .next) { s with heap := h, toks := t })
    (O : Own h₀ L m ((it, P 0) :: cs) h₂) (hJ : J 0 m cs)
    (hL : env.locals = L := by rfl) (hk : env.scope.kind = .function := by rfl) (hl : env.kindOf x = some .local := by rfl) :
    codeAny (model prog w) A (.forLoop (.Name x px) (.ref it) body [] env) R { s with heap := h₂, toks := t₂ } := by
  refine codeAny_forLoop (I := fun r s' => ∃ k h' t' m' cs', s' = { s with heap := h', toks := t' } ∧ Own h₀ L m' ((it, P k) :: cs') h' ∧ J k m' cs' ∧ k ≤ n ∧ r = n + 1 - k) ?_ (n + 1)
    ⟨0, h₂, t₂, m, cs, rfl, O, hJ, Nat.zero_le _, rfl⟩
  rintro r s' ⟨k, h', t', m', cs', rfl, O', hJ', hkn, hr⟩
  by_cases hlt : k < n
  · refine I.next hh hlt (hside _ _ _ _ hJ' O'.drop) (O'.own _ (.head _)).1 fun v h₃ t₃ hv hs₃ hp₃ => ?_
    refine wpAny_assign_Name (st_loc (O'.set hs₃ hp₃) (fun h₄ t₄ O₄ => ?_) hL hk hl)
    refine wpAny_mono (turn k v m' cs' h₄ t₄ hlt hv hJ' O₄) (fun f s₅ h₅ => ?_) fun _ _ x => x.elim
    obtain ⟨hf, h₅, t₅, m₅, cs₅, rfl, O₅, hJ₅⟩ := h₅
    rcases hf with rfl | rfl
    · exact ⟨n + 1 - (k + 1), by omega, k + 1, h₅, t₅, m₅, cs₅, rfl, O₅, hJ₅, hlt, rfl⟩
    · exact ⟨n + 1 - (k + 1), by omega, k + 1, h₅, t₅, m₅, cs₅, rfl, O₅, hJ₅, hlt, rfl⟩
  · have hkn' : k = n := by omega
    subst hkn'
    refine I.stop hh (hside _ _ _ _ hJ' O'.drop) (O'.own _ (.head _)).1 fun h₃ t₃ hs₃ => wpAny_execs_nil ?_
    exact fin m' cs' h₃ t₃ hJ' (O'.ext hs₃)

theorem points_spec {n : Nat} {Q : Value → Shared → Prop} {M : Nat → Nat → Int} {st T : Nat} {ts : Tok} (G : Gl w s.heap) (ok : Ok A (n + 1 + 1 + 1)) (hM : small M) (hst : st < 5) (h2 : T ≤ 2)
    (fin : ∀ h' t' a as, as.length = 5 → Fresh s.heap ((a, isL (as.map .ref)) :: rowcells as (pv M T) 5) h' → Q (.ref a) { s with heap := h', toks := t' }) :
    wpAny (model prog w) A (call (.ref 269) [.str (tx (mtext [13, 10] M st T 25)) ts]) Q E s := by
  refine call_c (binds := [("sent", .str (tx (mtext [13, 10] M st T 25)) ts)]) G ok rfl rfl rfl rfl rfl rfl rfl rfl rfl ?_ ?_ rfl rfl rfl fun h₁ t₁ ok' O => ?_
  · intro p hp
    rw [List.mem_singleton] at hp
    subst hp
    exact .inl rfl
  · intro L p hp
    have : p = (Str.ofString "rows", L + 1) ∨ p = (Str.ofString "book", L) := by simpa [cellsFrom] using hp
    rcases this with rfl | rfl <;> rfl
  have O : Own s.heap s.heap.objs.size (fun y => if y = "sent" then some (.str (tx (mtext [13, 10] M st T 25)) ts) else none) [(s.heap.objs.size + 1 + 1, isCell none), (s.heap.objs.size + 1, isCell none)] h₁ := O
  generalize hm : (fun y => if y = Str.ofString "sent" then some (Value.str (tx (mtext [13, 10] M st T 25)) ts) else none) = m at O
  have hsent : m "sent" = some (.str (tx (mtext [13, 10] M st T 25)) ts) := by rw [← hm]; exact if_pos rfl
  clear hm
  -- the book
  refine wpAny_execs_cons (wpAny_Assign_Name (name_call (nm_glob G O rfl (callWith_K (h₀ := s.heap) G.K rfl (wpAny_items_cons (List_ (wpAny_items_nil (o_newList O (by decide) fun la h₂ t₂ O _ => wpAny_items_nil ⟨(G.keeps O.keep).K, wpAny_call ?_⟩))))))))
  show codeAny _ _ _ _ ⟨h₂, s.gens, s.drawn, t₂, s.os⟩
  refine make_core (makes_of (G.keeps O.keep).K rfl) (looks_findIn (G.keeps O.keep).K (name := "__init__") (r := some (.ref 76)) rfl) (fun self => bind_fn (G.keeps O.keep).K (f := 76) self rfl) (.inl rfl) ?_
  have O := (O.push emptyDict (P := fun o => o = emptyDict) rfl).push (instObj 182 h₂.objs.size) (P := fun o => o = instObj 182 h₂.objs.size) rfl
  rw [Heap.size_push] at O
  have O := O.swap
  obtain ⟨od, ed, rfl⟩ := O.get 0 rfl
  obtain ⟨ox, ex, rfl⟩ := O.get 1 rfl
  refine init_spec (n := n) (dx := h₂.objs.size) (G.keeps O.hideKeeps) (ok'.under1 (Nat.le_of_ble_eq_true rfl) (Nat.le_of_ble_eq_true rfl)) ex ed (O.get 2 rfl) fun h₃ t₃ x₃ d₃ => ⟨rfl, ?_⟩
  have O := O.setExt x₃ d₃
  generalize h₂.objs.size + 1 = x at O
  generalize h₂.objs.size = dx at O
  have O := O.front (pre := [_, _, _, _])
  refine st_cell O fun h₄ O => ?_
  generalize hcR : s.heap.objs.size + 1 + 1 = cR at O
  generalize hcB : s.heap.objs.size + 1 = cB at O
  have O := O.front (pre := [_, _, _])
  -- the rows
  obtain ⟨hsp, hsl⟩ := split_lines (bs := (List.range 25).map (mrow M st T)) (by simp) fun b hb => by
    obtain ⟨p, _, rfl⟩ := List.mem_map.mp hb
    exact mrow_clean M st T p
  rw [← crlf_lit] at hsp hsl
  let BC : List Addr → Cells := fun tups => (la, isL (tups.map .ref)) :: (cB, isCell (some (.ref x))) :: (dx, isHd la) :: (x, fun o => o = instObj 182 dx) :: (cR, isCell none) :: pcells (rpair M st T) tups
  have O : Own s.heap s.heap.objs.size m (BC []) h₄ := O
  have hlen := mtext_len hM (e := [13, 10]) (st := st) (j := T) (n := 25) (by decide) (by omega) (by decide)
  refine wpAny_execs_cons (wpAny_For (o_slice (h₀ := s.heap) (L := s.heap.objs.size) (meth_call (nm_loc O hsent (GM.split (cw_blt (wpAny_items_cons (wpAny_Constant_str (wpAny_items_nil ?_)))))))))
  refine SCG.split1 (Fm := fun s' => ∃ h' t', s' = { s with heap := h', toks := t' } ∧ Own s.heap s.heap.objs.size m (BC []) h') ?_ ⟨_, _, rfl, O⟩ (by decide +kernel) ?_ (by rw [tx_len, sizeLine_eq]; omega) (by
    have hsl' : (Builtin.Str.partsBetween (tx (mtext [13, 10] M st T 25)) (Builtin.Str.occurrences (tx (mtext [13, 10] M st T 25)) (Str.ofString "\x0d\n") 0 (tx (mtext [13, 10] M st T 25)).length ((tx (mtext [13, 10] M st T 25)).length + 1)) (Str.ofString "\x0d\n").length).length = _ := hsl
    rw [hsl', sizeLine_eq]; simp)
  · rintro s' o k ⟨h', t', rfl, O⟩
    exact ⟨_, _, rfl, O.keeps fun b o e => Heap.get?_push_of_some _ e⟩
  rintro D l s' hl' ⟨h', t', rfl, O⟩ hD
  refine wpAny_evalPart_none (wpAny_evalPart_some (wpAny_UnaryOp (wpAny_Constant_int (PyProof.Rows.neg_int ?_))))
  have hll : l.length = 26 := by have := congrArg List.length (hl'.trans hsp); simpa using this
  refine ⟨D, strValues l, none, some (-1), m, _, rfl, hD, ?_, .none, .int _ _, O, ?_⟩
  · rw [strValues, List.length_map, hll, sizeLine_eq]; decide
  have hS : StrsAre ((strValues l).take 25) ((List.range 25).map fun p => tx (mrow M st T p)) := by
    have := (strsAre_values l).take' 25
    rw [hl'.trans hsp, List.map_map] at this
    have e : ((List.range 25).map (tx ∘ mrow M st T) ++ [tx []]).take 25 = (List.range 25).map fun p => tx (mrow M st T p) := by
      rw [List.take_append_of_le_length (by simp), List.take_of_length_le (by simp)]; rfl
    rw [e] at this
    exact this
  have hpick : (slicePick (strValues l).toArray none (some (-1)) none).toList = (strValues l).take 25 := by
    have := slicePick_butLast (strValues l).toArray 1 (by decide)
    rw [List.size_toArray, strValues, List.length_map, hll] at this
    exact congrArg Array.toList this
  intro LD h₅ t₅ _ O _
  rw [hpick] at O
  generalize (strValues l).take 25 = vals at hS O
  have hvl : vals.length = 25 := by rw [hS.length]; simp
  refine wpAny_pyIter_list (isL.list (O.get 0 rfl)) ?_
  have O := O.push { cls := .type "list_iterator", data := .fields #[.ref LD, .int 0 0] } (P := isLI LD 0) ⟨rfl, rfl⟩
  generalize hit0 : h₅.objs.size = it0 at O ⊢
  refine for_core (s := s) (iterL LD vals) (h₀ := s.heap) (L := s.heap.objs.size) (fun k m cs => ∃ tups, tups.length = k ∧ cs = (LD, isL vals) :: BC tups) ok'.hd ?_ ?_ ?_ O ⟨[], rfl, rfl⟩
  · rintro k m cs h ⟨tups, _, rfl⟩ O
    exact isL.list (O.get 0 rfl)
  · rintro k v m' cs h t hk hv ⟨tups, htl, rfl⟩ O
    rw [hvl] at hk
    obtain ⟨y, tk, rfl, hy⟩ := hS.item k v hv
    have hy' : y = tx (mrow M st T k) := by
      rw [List.getElem?_map, List.getElem?_range hk] at hy
      exact (Option.some.inj hy).symm
    subst hy'
    have hi : (st + k % 5) % 5 < 5 := by omega
    have hj : k / 5 < 5 := by omega
    have hM' := hM _ hi _ hj
    refine wpAny_execs_cons (wpAny_Assign_Name (wpAny_mono (Q := fun v s₁ => ∃ tk t₁, v = .str (rname st k) tk ∧ s₁ = { s with heap := h, toks := t₁ }) (E := fun _ _ => False) ?_ (fun v s₁ h₁ => ?_) fun _ _ x => x.elim))
    · refine wpAny_IfExp (wpAny_isTrue_Compare1 (sub_str (nm_loc O (upd_same ..) (wpAny_UnaryOp (wpAny_Constant_int (PyProof.Rows.neg_int ⟨_, _, -1, _, 97 + k / 5, rfl, rfl, by decide, by decide, at_last _ _ _, ?_⟩))))))
      intro t' tk'
      refine wpAny_Constant_str (PyProof.Rows.in_str (wpAny_truthy_bool ?_))
      rw [StrLaws.found_one, in_bd _ hj]
      by_cases hgr : (k / 5 % 2 == 1) = true
      · refine ite_pos hgr ?_
        refine meth_call (sub_str (nm_loc O (upd_same ..) (wpAny_UnaryOp (wpAny_Constant_int (PyProof.Rows.neg_int ⟨_, _, -2, _, 97 + (st + k % 5) % 5, rfl, rfl, by decide, by decide, at_snd _ _ _, ?_⟩)))))
        intro t' tk'
        refine GM.upper (cw_blt (wpAny_items_nil (SCL.upper (Nat.le_of_ble_eq_true rfl) ?_)))
        intro _
        refine ⟨_, _, congrArg (fun z => Value.str z _) ?_, rfl⟩
        rw [upper_let _ hi]
        unfold rname great
        rw [if_pos hgr]
      · refine ite_neg hgr ?_
        refine sub_str (nm_loc O (upd_same ..) (wpAny_UnaryOp (wpAny_Constant_int (PyProof.Rows.neg_int ⟨_, _, -2, _, 97 + (st + k % 5) % 5, rfl, rfl, by decide, by decide, at_snd _ _ _, ?_⟩))))
        intro t' tk'
        refine ⟨_, _, congrArg (fun z => Value.str z _) ?_, rfl⟩
        unfold rname great
        rw [if_neg hgr]
    obtain ⟨tk₁, t₁, rfl, rfl⟩ := h₁
    refine st_str O rfl fun h₆ t₆ tk₆ O => ?_
    have Bk : ∀ {h m}, Own s.heap s.heap.objs.size m ((it0, isLI LD (k + 1)) :: (LD, isL vals) :: BC tups) h → Book h x la := fun O => by
      obtain ⟨od, ed, hd⟩ := O.get 4 rfl
      obtain ⟨ox, ex, rfl⟩ := O.get 5 rfl
      exact ⟨dx, ex, od, ed, hd⟩
    refine wpAny_execs_cons (wpAny_Expr (meth_call (nm_cell (c := cB) (O.get 3 rfl) ((Bk O).gm_add G O (cw_fn (wpAny_items_cons (nm_loc O (upd_same ..) (wpAny_items_cons ?_))))) (hc := by rw [← hcB]; rfl))))
    refine o_str_slice (h₀ := s.heap) (L := s.heap.objs.size) (nm_loc O (upd_ne (by decide) (upd_same ..)) (wpAny_evalPart_none (wpAny_evalPart_some (wpAny_UnaryOp (wpAny_Constant_int (PyProof.Rows.neg_int ?_))))))
    have hD : rdots M T ((st + k % 5) % 5) (k / 5) ≤ 20 := by unfold rdots; omega
    refine ⟨_, _, none, some (-2, _), _, _, tx (List.replicate (rdots M T ((st + k % 5) % 5) (k / 5)) 46), rfl, rfl, rfl, O, slice_but _ _ _ _ _, ?_, ?_⟩
    · rw [tx_len, List.length_replicate, sizeLine_eq]; omega
    intro h₇ t₇ tk₇ O _
    have Bk7 := Bk O
    have O := O.front (pre := [_, _])
    refine wpAny_items_nil ⟨⟨_, _, (G.keeps O.keep).K 179 _ rfl, rfl⟩, ?_⟩
    refine addh_spec (n := n) (G.keeps O.hideKeeps) ok' Bk7 (O.get 0 rfl) (rname_clean st k) ?_ (by rw [rname_len]; decide) (by rw [tx_len, List.length_replicate]; omega) (by rw [List.length_map]; omega) fun h₈ t₈ tup u1 u2 k₈ q1 q2 q3 q4 => ?_
    · intro c hc
      rw [tx_cps, List.mem_replicate] at hc
      rw [hc.2]; exact clean_dot
    have n1 : tup ≠ s.heap.objs.size := by
      obtain ⟨o, _, _, ho, _⟩ := O.fr.ns
      intro z; rw [z] at q3
      exact absurd (q3.symm.trans ho) (by simp)
    have n2 : s.heap.get? tup = none := by
      cases hq : s.heap.get? tup with
      | none => rfl
      | some o => exact absurd (q3.symm.trans (O.keep _ _ hq)) (by simp)
    have n3 : ∀ p ∈ (la, isL (tups.map .ref ++ [.ref tup])) :: ([(it0, isLI LD (k + 1)), (LD, isL vals)] ++ (cB, isCell (some (.ref x))) :: (dx, isHd la) :: (x, fun o => o = instObj 182 dx) :: (cR, isCell none) :: pcells (rpair M st T) tups), p.1 ≠ tup := by
      intro p hp z
      cases hp with
      | head => exact q4 z.symm
      | tail _ hp =>
        obtain ⟨o, e, _⟩ := (O.own p (.tail _ hp)).1
        rw [z] at e
        exact absurd (q3.symm.trans e) (by simp)
    have O := ((O.setExt (ext_of_hide k₈) q1).add (P := isPair (rpair M st T k)) (let ⟨o, e, q⟩ := q2; ⟨o, e, u1, u2, q⟩) n1 n2 n3)
    have O := O.perm (cs' := (it0, isLI LD (k + 1)) :: (LD, isL vals) :: BC (tups ++ [tup])) ?_
    · exact wpAny_execs_nil ⟨.inl rfl, h₈, t₈, _, _, rfl, O, tups ++ [tup], by simp [htl], rfl⟩
    · show ((it0, isLI LD (k + 1)) :: (LD, isL vals) :: (la, isL ((tups ++ [tup]).map .ref)) :: (cB, isCell (some (.ref x))) :: (dx, isHd la) :: (x, fun o => o = instObj 182 dx) :: (cR, isCell none) :: pcells (rpair M st T) (tups ++ [tup]) : Cells).Perm _
      rw [pcells_snoc, htl, List.map_append]
      refine (List.perm_append_comm (l₁ := (it0, isLI LD (k + 1)) :: (LD, isL vals) :: (la, isL (tups.map .ref ++ [.ref tup])) :: (cB, isCell (some (.ref x))) :: (dx, isHd la) :: (x, fun o => o = instObj 182 dx) :: (cR, isCell none) :: pcells (rpair M st T) tups) (l₂ := [(tup, isPair (rpair M st T k))])).trans ?_
      refine List.Perm.cons _ ?_
      exact List.perm_middle (l₁ := [(it0, isLI LD (k + 1)), (LD, isL vals)])
  · rintro m' cs h t ⟨tups, htl, rfl⟩ O
    rw [hvl] at htl
    have O := O.drop
    have p1 : ∀ (e : Cells) (x : Addr × (Obj → Prop)), (x :: e).Perm (e ++ [x]) := fun e x => by simpa using (List.perm_middle (l₁ := e) (a := x) (l₂ := [])).symm
    obtain ⟨le1, le2, le3⟩ := letters5
    have Bk : Book h x la := by
      obtain ⟨od, ed, hd⟩ := O.get 2 rfl
      obtain ⟨ox, ex, rfl⟩ := O.get 3 rfl
      exact ⟨dx, ex, od, ed, hd⟩
    have hR : RowsAt h (tups.map .ref) ((List.range 25).map (rpair M st T)) := rows_of htl fun p hp => (O.own p (.tail _ (.tail _ (.tail _ (.tail _ (.tail _ hp)))))).1
    have hLa := O.get 0 rfl
    have hcBk := O.get 1 rfl
    have hcRk := O.get 4 rfl
    refine wpAny_execs_cons (wpAny_Assign_Name ?_)
    refine comp_eval (iterS (Str.ofString "ABCDE") t) (fun k ys cs => k ≤ 5 ∧ ∃ Ds : List Addr, Ds.length = k ∧ ys = Ds.map .ref ∧ cs = gcells (fun i => isStrs (prow M T i)) Ds) ok'.hd ?_ (fun _ _ _ _ _ _ _ _ => trivial) ?_ ?_ ?_
    · refine wpAny_Constant_str (wpAny_pyIter_ascii le3 ?_)
      exact ⟨_, _, _, [], rfl, rfl, ⟨(Fresh.refl _).push _ (P := isSI (Str.ofString "ABCDE") t 0) ⟨rfl, rfl⟩, Nat.le_refl _⟩, by decide, [], rfl, rfl, rfl⟩
    · rintro k ys cs ⟨hk5, Ds, hk, rfl, rfl⟩
      rw [List.length_map, sizeLine_eq]; omega
    · rintro C it acc k v ys cs h' t' m₂ hk ⟨c, u, hc, rfl⟩ ⟨_, Ds, hDl, rfl, rfl⟩ hm₂ O'
      rw [le1] at hk
      rw [le2 k hk] at hc
      cases hc
      refine wpAny_tests_nil (ite_pos rfl ?_)
      refine meth_call (nm_cell (c := cB) (let ⟨o, e, q⟩ := hcBk; ⟨o, O'.keep _ _ e, q⟩) ((Bk.keeps O'.keep).gm_all (G.keeps O.keep) O' (cw_fn (wpAny_items_cons (nm_loc O' hm₂ (wpAny_items_nil ⟨⟨_, _, (G.keeps (Keeps.trans O.keep O'.keep)).K 121 _ rfl, rfl⟩, ?_⟩))))) (hc := by rw [← hcB]; rfl))
      refine all_spec (n := n) (G.keeps (Keeps.trans O.keep O'.keep)) ok' (Bk.keeps O'.keep) (let ⟨o, e, q⟩ := hLa; ⟨o, O'.keep _ _ e, q⟩) (hR.keeps O'.keep) (by simp) ?_ (Nat.le_of_ble_eq_true rfl) ?_ fun h₆ t₆ D ys k₆ q1 q2 q3 => ?_
      · intro p hp
        obtain ⟨q, _, rfl⟩ := List.mem_map.mp hp
        show (rname st q).length ≤ 1000
        rw [rname_len]; decide
      · rw [lower_great k hk]
        intro c hc
        have : c = 97 + k := by simpa using hc
        rw [this]; exact clean_small k hk
      rw [told_rows M hst hk (lower_great k hk)] at q3
      have O' := (O'.new k₆ q1 q2).imp (P' := isStrs (prow M T k)) fun o ho => ⟨ys, ho.w, q3⟩
      refine ⟨h₆, t₆, m₂, _, rfl, O'.perm (cs' := (acc, isL (Ds.map .ref)) :: (it, isSI (Str.ofString "ABCDE") t (k + 1)) :: gcells (fun i => isStrs (prow M T i)) (Ds ++ [D])) ?_, hk, Ds ++ [D], by simp [hDl], by simp, rfl⟩
      rw [gcells_snoc, hDl]
      exact (List.perm_append_comm (l₁ := (acc, isL (Ds.map .ref)) :: (it, isSI (Str.ofString "ABCDE") t (k + 1)) :: gcells (fun i => isStrs (prow M T i)) Ds) (l₂ := [(D, isStrs (prow M T k))]))
    · rintro D ys cs h' t' ⟨_, Ds, hDl, rfl, rfl⟩ F
      have O := (O.join F).sub (cs' := (D, isL (Ds.map .ref)) :: (gcells (fun i => isStrs (prow M T i)) Ds ++ [(cR, isCell none)])) (by
        refine .cons_cons _ (List.Sublist.append (List.Sublist.refl _) ?_)
        exact .cons _ (.cons _ (.cons _ (.cons _ (.cons_cons _ (List.nil_sublist _))))))
      have O := O.perm (cs' := (cR, isCell none) :: (D, isL (Ds.map .ref)) :: gcells (fun i => isStrs (prow M T i)) Ds) ((List.Perm.swap _ _ _).trans ((p1 _ _).cons _))
      refine st_cell O (fun h₈ O => ?_) (hc := by rw [← hcR]; rfl)
      rw [le1] at hDl
      subst hcR
      have ga : ∀ i, i < 5 → (Ds.map Value.ref)[i]? = some (.ref (Ds.getD i 0)) := fun i hi => by
        rw [List.getElem?_map, List.getD_eq_getElem?_getD, List.getElem?_eq_getElem (by omega)]; rfl
      have hRows := O.get 0 rfl
      have hDk := let ⟨o, e, q⟩ := O.get 1 rfl; (⟨o, e, isL.w q⟩ : ∃ o, h₈.get? D = some o ∧ isW (Ds.map .ref) o)
      have hTx : ∀ i, i < 5 → ∃ o, h₈.get? (Ds.getD i 0) = some o ∧ isStrs (prow M T i) o := fun i hi => (O.own _ (.tail _ (.tail _ (gcells_get (F := fun i => isStrs (prow M T i)) (by omega))))).1
      have hrd : ∀ i, i < 5 → ∀ j, j < 5 → rdots M T i j ≤ 20 := fun i hi j hj => by
        have := hM i hi j hj
        unfold rdots; omega
      refine wpAny_execs_cons (wpAny_Return_some ?_)
      refine comp_eval1 (iterR 0 5) (fun k ys cs => k ≤ 5 ∧ ∃ as : List Addr, as.length = k ∧ ys = as.map .ref ∧ cs = rowcells as (pv M T) 5) ok'.hd ?_ (fun _ _ _ _ _ _ _ _ => trivial) ?_ ?_ ?_
      · refine name_call (nm_blt G O rfl boot_range' (cw_type (wpAny_items_cons (wpAny_Constant_int (wpAny_items_nil ?_)))))
        refine range_1 (n := 5) O (by decide) fun it h₂ t₂ O₂ k₂ le => ?_
        obtain ⟨o, e, p⟩ := (O₂.own _ (.head _)).1
        exact ⟨it, h₂, t₂, [], rfl, rfl, ⟨Fresh.one k₂ (Heap.get?_none_of_le le) e p, le⟩, by decide, [], rfl, rfl, rfl⟩
      · rintro k ys cs ⟨hk5, as, hk, rfl, rfl⟩
        rw [List.length_map, sizeLine_eq]; omega
      · rintro C c it acc k v ys cs h₁₀ t₁₀ m₂ hk ⟨tv, rfl⟩ ⟨_, as, hal, rfl, rfl⟩ O'
        rw [Int.zero_add] at O' ⊢
        have G' := G.keeps (Keeps.trans O.keep O'.keep)
        refine wpAny_tests_nil (ite_pos rfl ?_)
        refine comp_eval (iterR 0 5) (fun l ys cs => l ≤ 5 ∧ cs = [] ∧ ys.length = l ∧ ∀ j, j < l → ∃ t, ys[j]? = some (.int (pv M T k j) t)) ok'.hd ?_ (fun _ _ _ _ _ _ _ _ => trivial) ?_ ?_ ?_
        · refine name_call (nm_blt (G.keeps O.keep) O' rfl boot_range' (cw_type (wpAny_items_cons (wpAny_Constant_int (wpAny_items_nil ?_)))))
          refine range_1 (n := 5) O' (by decide) fun it h₂ t₂ O₂ k₂ le => ?_
          obtain ⟨o, e, p⟩ := (O₂.own _ (.head _)).1
          exact ⟨it, h₂, t₂, [], rfl, rfl, ⟨Fresh.one k₂ (Heap.get?_none_of_le le) e p, le⟩, by decide, rfl, rfl, by simp⟩
        · rintro l ys cs ⟨hl5, _, hl, _⟩
          rw [hl, sizeLine_eq]; omega
        · rintro C2 it2 acc2 l v ys cs h₁₁ t₁₁ m₃ hl ⟨tv2, rfl⟩ ⟨_, rfl, hyl, hya⟩ hm₃ O''
          rw [Int.zero_add] at hm₃
          have kk := Keeps.trans O'.keep O''.keep
          have hRows := (let ⟨o, e, q⟩ := hRows; ⟨o, kk _ _ e, q⟩ : ∃ o, h₁₁.get? (s.heap.objs.size + 1 + 1) = some o ∧ isCell (some (.ref D)) o)
          have hOne := (let ⟨o, e, q⟩ := O'.get 2 rfl; ⟨o, O''.keep _ _ e, q⟩ : ∃ o, h₁₁.get? c = some o ∧ isCell (some (.int k tv)) o)
          have hDk := (let ⟨o, e, q⟩ := hDk; ⟨o, kk _ _ e, q⟩ : ∃ o, h₁₁.get? D = some o ∧ isW (Ds.map .ref) o)
          have hTx : ∀ i, i < 5 → ∃ o, h₁₁.get? (Ds.getD i 0) = some o ∧ isStrs (prow M T i) o := fun i hi => let ⟨o, e, q⟩ := hTx i hi; ⟨o, kk _ _ e, q⟩
          obtain ⟨oa, ya, ta, ea, wa, ha⟩ := isStrs.at_ (hTx k hk) (prow_at M T k hl)
          obtain ⟨ob, yb, tb, eb, wb, hb⟩ := isStrs.at_ (hTx l hl) (prow_at M T l hk)
          have G'' := G.keeps (Keeps.trans O.keep kk)
          have hr1 := hrd k hk l hl
          refine wpAny_tests_nil (ite_pos rfl ?_)
          refine name_call (nm_glob (G.keeps (Keeps.trans O.keep O'.keep)) O'' rfl (cw_fn (wpAny_items_cons ?_)))
          refine name_call (nm_blt (G.keeps (Keeps.trans O.keep O'.keep)) O'' rfl boot_len' (cw_blt (wpAny_items_cons ?_)))
          refine sub_list (sub_list (nm_cell hRows (nm_cell hOne ?_)))
          refine ⟨D, _, k, _, _, rfl, rfl, hDk, by omega, by omega, ga k hk, ?_⟩
          refine nm_loc O'' hm₃ ⟨_, ya, l, _, _, rfl, rfl, ⟨oa, ea, wa⟩, by omega, by omega, ha, ?_⟩
          refine wpAny_items_nil (PyProof.Rows.len_str (by unfold dots; rw [tx_len, List.length_replicate]; omega) ?_)
          refine wpAny_items_cons (name_call (nm_glob (G.keeps (Keeps.trans O.keep O'.keep)) O'' rfl (cw_fn (wpAny_items_cons (wpAny_Constant_int (wpAny_items_cons ?_))))))
          refine name_call (nm_glob (G.keeps (Keeps.trans O.keep O'.keep)) O'' rfl (cw_fn (wpAny_items_cons ?_)))
          refine sub_list (sub_list (nm_cell hRows (nm_cell hOne ?_)))
          refine ⟨D, _, k, _, _, rfl, rfl, hDk, by omega, by omega, ga k hk, ?_⟩
          refine nm_loc O'' hm₃ ⟨_, ya, l, _, _, rfl, rfl, ⟨oa, ea, wa⟩, by omega, by omega, ha, ?_⟩
          refine wpAny_items_cons (sub_list (sub_list (nm_cell hRows (nm_loc O'' hm₃ ?_))))
          refine ⟨D, _, l, _, _, rfl, rfl, hDk, by omega, by omega, ga l hl, ?_⟩
          refine nm_cell hOne ⟨_, yb, k, _, _, rfl, rfl, ⟨ob, eb, wb⟩, by omega, by omega, hb, ?_⟩
          refine wpAny_items_nil ⟨⟨_, _, G''.K 193 _ rfl, rfl⟩, ?_⟩
          refine strcoll_spec (n := n) G'' (ok'.le (by omega)) fun h₁₂ t₁₂ tk₁₂ k₁₂ => ?_
          refine wpAny_items_nil ⟨⟨_, _, (G''.keeps k₁₂).K 221 _ rfl, rfl⟩, ?_⟩
          refine mul_spec (n := n) (G''.keeps k₁₂) (ok'.le (by omega)) (IntMulOk.of_left (by decide +kernel)) fun h₁₃ t₁₃ tk₁₃ k₁₃ => ?_
          refine wpAny_items_nil ⟨⟨_, _, ((G''.keeps k₁₂).keeps k₁₃).K 200 _ rfl, rfl⟩, ?_⟩
          refine add_spec' (n := n) ((G''.keeps k₁₂).keeps k₁₃) (ok'.le (by omega)) fun h₁₄ t₁₄ tk₁₄ k₁₄ => ?_
          refine ⟨h₁₄, t₁₄, m₃, [], rfl, O''.keeps (Keeps.trans k₁₂ (Keeps.trans k₁₃ k₁₄)), hl, rfl, by simp [hyl], fun j hj => ?_⟩
          by_cases hjl : j < l
          · obtain ⟨t, ht⟩ := hya j hjl
            exact ⟨t, by rw [List.getElem?_append_left (by omega)]; exact ht⟩
          · have : j = l := by omega
            subst this
            refine ⟨tk₁₄, ?_⟩
            rw [List.getElem?_append_right (by omega), hyl, Nat.sub_self]
            show some (Value.int _ _) = _
            have : ((dots M T k j).length : Int) = (rdots M T k j : Int) := by unfold dots; rw [tx_len, List.length_replicate]
            unfold pv
            rw [this]
        · rintro D2 ys cs h₁₁ t₁₁ ⟨_, rfl, hyl, hya⟩ F
          have O' := ((O'.join F).imp (P' := isInts 5 (pv M T k)) fun o ho => ⟨ys, ho.w, hyl, hya⟩)
          refine ⟨h₁₁, t₁₁, m₂, _, rfl, O'.perm (cs' := (acc, isL (as.map .ref)) :: (it, isRI 0 5 (k + 1)) :: (c, isCell (some (.int k tv))) :: rowcells (as ++ [D2]) (pv M T) 5) ?_, hk, as ++ [D2], by simp [hal], by simp, rfl⟩
          have hs : rowcells (as ++ [D2]) (pv M T) 5 = rowcells as (pv M T) 5 ++ [(D2, isInts 5 (pv M T k))] := by
            have := gcells_snoc (fun i => isInts 5 (pv M T i)) as D2
            rw [hal] at this
            exact this
          rw [hs]
          exact (List.perm_append_comm (l₁ := (acc, isL (as.map .ref)) :: (it, isRI 0 5 (k + 1)) :: (c, isCell (some (.int k tv))) :: rowcells as (pv M T) 5) (l₂ := [(D2, isInts 5 (pv M T k))]))
      · rintro D2 ys cs h₁₀ t₁₀ ⟨_, as, hal, rfl, rfl⟩ F
        exact fin _ _ D2 as hal ⟨Keeps.trans O.keep F.keep, fun p hp => ⟨(F.own p hp).1, by
          cases hq : s.heap.get? p.1 with
          | none => rfl
          | some o => exact absurd ((F.own p hp).2.symm.trans (O.keep _ _ hq)) (by simp)⟩, F.nd⟩
end
end Mine
end

section
set_option maxRecDepth 100000
set_option Elab.async false
set_option maxHeartbeats 1000000
set_option linter.unusedVariables false
open PySem PySem.Sre PySem.Calls PySem.W PyProof.Rows
namespace Mine
def nInts (ps : List Nat) : List Int := ps.map Int.ofNat
def isNs (ps : List Nat) (o : Obj) : Prop := ∃ vs, isL vs o ∧ IntsAre vs (nInts ps)
def rest (ps : List Nat) (t : Nat) : List Nat := (ps.drop 1).take (t - 1) ++ ps.drop (t + 1)
def okp : Nat → List Nat → Bool
  | 0, ps => ps.isEmpty
  | f + 1, ps => ps.isEmpty || (decide (ps.getD 0 0 < 5) && ps.all (fun x => decide (x < 6)) && (List.range (ps.length - 1)).all fun t => okp f (rest ps (t + 1)))
def paired (Ld : Nat → Nat → Int) : Nat → List Nat → Int
  | 0, ps => if ps.isEmpty then 1 else 0
  | f + 1, ps => (List.range (ps.length - 1)).foldl (fun acc t => acc - (-1) ^ (t + 1) * Ld (ps.getD 0 0) (ps.getD (t + 1) 0) * paired Ld f (rest ps (t + 1))) (if ps.isEmpty then 1 else 0)
theorem rest_len (ps : List Nat) (t : Nat) (h1 : 1 ≤ t) (h2 : t < ps.length) : (rest ps t).length = ps.length - 2 := by
  unfold rest; simp; omega
section
variable {prog : Program} {w : World} {A : Around} {s : Shared} {E : Value → Shared → Prop}

theorem range_3 {h₀ : Heap} {L : Addr} {m : Loc} {cs : Cells} {n : Nat} {t u : Tok} {Q : Value → Shared → Prop} (O : Own h₀ L m cs s.heap) (hn : n ≤ 1000)
    (h : ∀ it h' t', Own h₀ L m ((it, isRI 1 (n - 1) 0) :: cs) h' → Q (.ref it) { s with heap := h', toks := t' }) :
    wpAny (model prog w) A (call (.type "range") [.int 1 t, .int n u]) (fun xv s₁ => wpAny (model prog w) A (pyIter xv) Q E s₁) E s := by
  refine call_range_2 ?_
  have O₁ := O.push { cls := .type "range", data := .fields #[.int 1 t, .int n u, .int 1 s.toks] } (P := fun _ => True) trivial
  refine wpAny_pyIter_range (a := 1) (b := n) (c := 1) (Heap.get?_push_size _ rfl) (small_one (by omega) (by omega) (by omega) (by omega)) ?_
  have O₂ := O₁.push { cls := .type "range_iterator", data := .fields #[rawInt 1, rawInt (Builtin.Range.rangeSize 1 n 1), rawInt 1] } (P := isRI 1 (n - 1) 0) (by
    unfold isRI
    rw [rangeSize_one]
    have : (if (1 : Int) < n then (n : Int) - 1 else 0) = ((n - 1 : Nat) : Int) := by split <;> omega
    rw [this]
    simp)
  refine h _ _ _ (O₂.sub ?_)
  exact .cons_cons _ (.cons _ (List.Sublist.refl _))

theorem paired_step {c : Addr} {as : List Addr} {Ld : Nat → Nat → Int} (hsm : ∀ i, i < 5 → ∀ j, j < 6 → -9 ≤ Ld i j ∧ Ld i j ≤ 9) (hal : as.length = 5) (f : Nat) (rec : List Nat → Int) {Q : Value → Shared → Prop} {p : Addr} {ps : List Nat}
    (G : Gl w s.heap) (ok : Ok A (f + 1)) (hc : ∃ o, s.heap.get? c = some o ∧ isW (as.map .ref) o) (hr : ∀ i, i < 5 → ∃ o, s.heap.get? (as.getD i 0) = some o ∧ isInts 6 (Ld i) o) (hp : ∃ o, s.heap.get? p = some o ∧ isNs ps o) (hlen : ps.length ≤ 100)
    (hb : 1 < ps.length → ps.getD 0 0 < 5 ∧ ∀ x ∈ ps, x < 6)
    (hrec : ∀ t, 1 ≤ t → t < ps.length → ∀ {A : Around} {s : Shared} {E : Value → Shared → Prop} {Q : Value → Shared → Prop} {p : Addr}, Gl w s.heap → Ok A f → (∃ o, s.heap.get? c = some o ∧ isW (as.map .ref) o) → (∀ i, i < 5 → ∃ o, s.heap.get? (as.getD i 0) = some o ∧ isInts 6 (Ld i) o) →
      (∃ o, s.heap.get? p = some o ∧ isNs (rest ps t) o) → (∀ h' t' tk, Keeps s.heap h' → Q (.int (rec (rest ps t)) tk) { s with heap := h', toks := t' }) → wpAny (model prog w) A (call (.ref 281) [.ref c, .ref p]) Q E s)
    (fin : ∀ h' t' tk, Keeps s.heap h' → Q (.int ((List.range (ps.length - 1)).foldl (fun acc t => acc - (-1) ^ (t + 1) * Ld (ps.getD 0 0) (ps.getD (t + 1) 0) * rec (rest ps (t + 1))) (if ps.isEmpty then 1 else 0)) tk) { s with heap := h', toks := t' }) :
    wpAny (model prog w) A (call (.ref 281) [.ref c, .ref p]) Q E s := by
  refine call_fn (args := ⟨[.ref c, .ref p], []⟩) (binds := [("leads", .ref c), ("places", .ref p)]) G ok rfl rfl rfl rfl rfl rfl rfl (.of_eq rfl) (by decide) rfl rfl rfl rfl fun h₁ t₁ ok' O => ?_
  obtain ⟨op, ep, vs, wp, ip⟩ := hp
  have hvl : vs.length = ps.length := by rw [ip.length]; simp [nInts]
  have LP : ∀ {h m cs}, Own s.heap s.heap.objs.size m cs h → ∃ o, h.get? p = some o ∧ isL vs o := fun O => ⟨op, O.keep _ _ ep, wp⟩
  have vat : ∀ j, j < ps.length → ∃ t, vs[j]? = some (.int (ps.getD j 0 : Nat) t) := fun j hj => by
    refine ip.get j _ ?_
    unfold nInts
    rw [List.getElem?_map, List.getD_eq_getElem?_getD, List.getElem?_eq_getElem hj]; rfl
  have ga : ∀ i, i < 5 → (as.map Value.ref)[i]? = some (.ref (as.getD i 0)) := fun i hi => by
    rw [List.getElem?_map, List.getD_eq_getElem?_getD, List.getElem?_eq_getElem (by omega)]; rfl
  let Fo : Int → Nat → Int := fun acc t => acc - (-1) ^ (t + 1) * Ld (ps.getD 0 0) (ps.getD (t + 1) 0) * rec (rest ps (t + 1))
  let i0 : Int := if ps.isEmpty then 1 else 0
  refine wpAny_execs_cons (wpAny_Assign_Name (wpAny_mono (Q := fun v s₁ => ∃ tk t₁, v = .int i0 tk ∧ s₁ = { s with heap := h₁, toks := t₁ }) (E := fun _ _ => False) ?_ (fun v s₁ h₂ => ?_) fun _ _ x => x.elim))
  · refine wpAny_IfExp (wpAny_isTrue_value (nm_loc O rfl (wpAny_truthy_list (isL.list (LP O)) (by rw [List.size_toArray, hvl]; omega) ?_)))
    by_cases he : ps.isEmpty = true
    · have : vs = [] := List.length_eq_zero_iff.mp (by rw [hvl, List.isEmpty_iff.mp he]; rfl)
      subst this
      refine ite_neg (by decide) (wpAny_Constant_int ⟨_, _, congrArg (fun z => Value.int z _) (if_pos he).symm, rfl⟩)
    · have hv : vs.toArray.isEmpty = false := by
        cases vs with
        | nil => exact absurd (List.isEmpty_iff.mpr (List.length_eq_zero_iff.mp hvl.symm)) he
        | cons a b => rfl
      rw [hv]
      refine ite_pos rfl (wpAny_Constant_int ⟨_, _, congrArg (fun z => Value.int z _) (if_neg he).symm, rfl⟩)
  obtain ⟨tk, t₂, rfl, rfl⟩ := h₂
  refine st_int O rfl fun h₃ t₃ tk₃ O => ?_
  refine wpAny_execs_cons (wpAny_For (name_call (nm_blt G O rfl boot_range' (cw_type (wpAny_items_cons (wpAny_Constant_int (wpAny_items_cons (name_call (nm_blt G O rfl boot_len' (cw_blt (wpAny_items_cons (nm_loc O (upd_ne (by decide) rfl) (wpAny_items_nil ?_)))))))))))))
  refine PyProof.Rows.len_list (isL.list (LP O)) (by rw [List.size_toArray, hvl]; omega) (wpAny_items_nil ?_)
  have hsz : vs.toArray.size = ps.length := by rw [List.size_toArray, hvl]
  refine range_3 (n := vs.toArray.size) O (by omega) fun it h₅ t₅ O => ?_
  rw [hsz] at O
  refine for_core (s := s) (iterR 1 (ps.length - 1)) (h₀ := s.heap) (L := s.heap.objs.size) (fun k m cs => (∃ tk, m "total" = some (.int ((List.range k).foldl Fo i0) tk)) ∧ m "leads" = some (.ref c) ∧ m "places" = some (.ref p) ∧ cs = []) ok'.hd (fun _ _ _ _ _ _ => trivial) ?_ ?_ O ⟨⟨_, upd_same ..⟩, upd_ne (by decide) rfl, upd_ne (by decide) rfl, rfl⟩
  · rintro k v m cs h t hk ⟨tv, rfl⟩ ⟨⟨tt, b1⟩, b2, b3, rfl⟩ O
    have hk2 : k + 1 < ps.length := by omega
    have e1 : (1 : Int) + (k : Int) = ((k + 1 : Nat) : Int) := by omega
    rw [e1] at O
    obtain ⟨hb0, hb6⟩ := hb (by omega)
    have b1 := upd_ne (m := m) (v := .int ((k + 1 : Nat) : Int) tv) (show (Str.ofString "total") ≠ Str.ofString "turn" by decide) b1
    have b2 := upd_ne (m := m) (v := .int ((k + 1 : Nat) : Int) tv) (show (Str.ofString "leads") ≠ Str.ofString "turn" by decide) b2
    have b3 := upd_ne (m := m) (v := .int ((k + 1 : Nat) : Int) tv) (show (Str.ofString "places") ≠ Str.ofString "turn" by decide) b3
    have b4 := upd_same m (Str.ofString "turn") (.int ((k + 1 : Nat) : Int) tv)
    refine wpAny_execs_cons (wpAny_Assign_Name (wpAny_BinOp (o_slice (h₀ := s.heap) (L := s.heap.objs.size) (nm_loc O b3 (wpAny_evalPart_some (wpAny_Constant_int (wpAny_evalPart_some (nm_loc O b4 ?_))))))))
    refine ⟨p, vs, some ((1 : Nat) : Int), some ((k + 1 : Nat) : Int), _, _, rfl, isL.list (LP O), by rw [hvl, sizeLine_eq]; omega, .int _ _, .int _ _, O, ?_⟩
    intro a1 h₆ t₆ _ O _
    rw [slicePick_run _ _ _ (by rw [List.size_toArray, hvl]; omega) (by omega)] at O
    refine o_slice (h₀ := s.heap) (L := s.heap.objs.size) (nm_loc O b3 (wpAny_evalPart_some (wpAny_BinOp (nm_loc O b4 (wpAny_Constant_int (PyProof.Rows.add_int (wpAny_evalPart_none ?_)))))))
    refine ⟨p, vs, some ((k + 1 : Nat) + 1 : Int), none, _, _, rfl, isL.list (LP O), by rw [hvl, sizeLine_eq]; omega, .int _ _, .none, O, ?_⟩
    intro a2 h₇ t₇ _ O _
    have e2 : ((k + 1 : Nat) + 1 : Int) = ((k + 2 : Nat) : Int) := by omega
    rw [e2, slicePick_from'] at O
    have hrl : ((vs.drop 1).take (k + 1 - 1)).length + (vs.drop (k + 2)).length ≤ sizeLine := by
      rw [List.length_take, List.length_drop, List.length_drop, hvl, sizeLine_eq]; omega
    refine o_add O (O.get 1 rfl) (O.get 0 rfl) hrl fun a3 h₈ t₈ O _ => ?_
    have hrest : IntsAre ((vs.drop 1).take (k + 1 - 1) ++ vs.drop (k + 2)) (nInts (rest ps (k + 1))) := by
      have := ((ip.drop 1).take (k + 1 - 1)).append (ip.drop (k + 2))
      have e : ((nInts ps).drop 1).take (k + 1 - 1) ++ (nInts ps).drop (k + 2) = nInts (rest ps (k + 1)) := by
        unfold nInts rest
        rw [List.map_append, List.map_take, List.map_drop, List.map_drop]
      rwa [e] at this
    have O := (O.imp (P' := isNs (rest ps (k + 1))) fun o ho => ⟨_, ho, hrest⟩).sub (cs' := [(a3, isNs (rest ps (k + 1))), (it, isRI 1 (ps.length - 1) (k + 1))]) (.cons_cons _ (.cons _ (.cons _ (List.Sublist.refl _))))
    refine st_loc O fun h₉ t₉ O => ?_
    have b1 := upd_ne (v := .ref a3) (show (Str.ofString "total") ≠ Str.ofString "rest" by decide) b1
    have b2 := upd_ne (v := .ref a3) (show (Str.ofString "leads") ≠ Str.ofString "rest" by decide) b2
    have b3 := upd_ne (v := .ref a3) (show (Str.ofString "places") ≠ Str.ofString "rest" by decide) b3
    have b4 := upd_ne (v := .ref a3) (show (Str.ofString "turn") ≠ Str.ofString "rest" by decide) b4
    obtain ⟨u0, v0⟩ := vat 0 (by omega)
    obtain ⟨u1, v1⟩ := vat (k + 1) hk2
    have hpk : ps.getD (k + 1) 0 < 6 := hb6 _ (by rw [List.getD_eq_getElem?_getD, List.getElem?_eq_getElem hk2]; exact List.getElem_mem _)
    obtain ⟨oi, ei, wi, ri, li, vi⟩ := hr _ hb0
    obtain ⟨u2, v2⟩ := vi _ hpk
    have hcO : ∃ o, h₉.get? c = some o ∧ isW (as.map .ref) o := let ⟨o, e, q⟩ := hc; ⟨o, O.keep _ _ e, q⟩
    have hpO : ∃ o, h₉.get? p = some o ∧ isW vs o := let ⟨o, e, q⟩ := LP O; ⟨o, e, q.w⟩
    have hrO : ∀ i, i < 5 → ∃ o, h₉.get? (as.getD i 0) = some o ∧ isInts 6 (Ld i) o := fun i hi => let ⟨o, e, q⟩ := hr i hi; ⟨o, O.keep _ _ e, q⟩
    have hRe := O.get 0 rfl
    have GO := G.keeps O.keep
    have hk1 : 1 ≤ k + 1 := by omega
    have hpow : (((-1 : Int)) ^ ((k + 1 : Nat) : Int).toNat).natAbs = 1 := by rw [Int.natAbs_pow]; simp
    have hsm' := hsm _ hb0 _ hpk
    refine wpAny_execs_cons (wpAny_AugAssign_Name (ldn_loc O b1 (wpAny_BinOp (wpAny_BinOp (wpAny_BinOp (wpAny_UnaryOp (wpAny_Constant_int (PyProof.Rows.neg_int (nm_loc O b4 (pow_int_small (by omega) (by omega) (by decide) ?_))))))))))
    refine sub_list (sub_list (nm_loc O b2 (sub_list (nm_loc O b3 (wpAny_Constant_int ?_)))))
    refine ⟨p, vs, 0, _, _, rfl, rfl, hpO, by decide, by decide, v0, ?_⟩
    refine ⟨c, _, (ps.getD 0 0 : Nat), _, _, rfl, rfl, hcO, by omega, by omega, ga _ hb0, ?_⟩
    refine sub_list (nm_loc O b3 (nm_loc O b4 ?_))
    refine ⟨p, vs, (k + 1 : Nat), _, _, rfl, rfl, hpO, by omega, by omega, v1, ?_⟩
    refine ⟨_, wi, (ps.getD (k + 1) 0 : Nat), _, _, rfl, rfl, ⟨oi, O.keep _ _ ei, ri⟩, by omega, by omega, v2, ?_⟩
    refine PyProof.Rows.mul_int ?_ (IntMulOk.of_left (intBits_le (by rw [hpow]; decide)))
    refine name_call (nm_glob G O rfl (cw_fn (wpAny_items_cons (nm_loc O b2 (wpAny_items_cons (nm_loc O (upd_same ..) (wpAny_items_nil ⟨⟨_, _, (G.keeps O.keep).K 281 _ rfl, rfl⟩, ?_⟩)))))))
    refine hrec (k + 1) hk1 hk2 GO ok' hcO hrO hRe fun h₁₀ t₁₀ tk₁₀ k₁₀ => ?_
    have O := O.keeps k₁₀
    have hbound : (((-1 : Int)) ^ ((k + 1 : Nat) : Int).toNat * Ld (ps.getD 0 0) (ps.getD (k + 1) 0)).natAbs < 2 ^ 64 := by rw [Int.natAbs_mul, hpow]; omega
    refine PyProof.Rows.mul_int (PyProof.Rows.isub_int ?_) (IntMulOk.of_left (intBits_le hbound))
    refine st_int (z' := (List.range (k + 1)).foldl Fo i0) O (by rw [List.range_succ, List.foldl_append]; rfl) fun h₁₁ t₁₁ k₁₁ O => ?_
    exact wpAny_execs_nil ⟨.inl rfl, h₁₁, t₁₁, _, _, rfl, O.swap.sub (cs' := [(it, isRI 1 (ps.length - 1) (k + 1))]) (.cons_cons _ (.cons _ (List.Sublist.refl _))), ⟨_, upd_same ..⟩, upd_ne (by decide) b2, upd_ne (by decide) b3, rfl⟩
  · rintro m cs h t ⟨⟨tt, b1⟩, b2, b3, rfl⟩ O
    exact wpAny_execs_cons (wpAny_Return_some (nm_loc O b1 (fin _ _ _ O.keep)))
theorem paired_spec {c : Addr} {as : List Addr} {Ld : Nat → Nat → Int} (hsm : ∀ i, i < 5 → ∀ j, j < 6 → -9 ≤ Ld i j ∧ Ld i j ≤ 9) (hal : as.length = 5) : ∀ (f : Nat) {A : Around} {s : Shared} {E : Value → Shared → Prop} {Q : Value → Shared → Prop} {p : Addr} {ps : List Nat},
    Gl w s.heap → Ok A (f + 1) → (∃ o, s.heap.get? c = some o ∧ isW (as.map .ref) o) → (∀ i, i < 5 → ∃ o, s.heap.get? (as.getD i 0) = some o ∧ isInts 6 (Ld i) o) → (∃ o, s.heap.get? p = some o ∧ isNs ps o) → okp f ps = true → ps.length ≤ 100 →
    (∀ h' t' tk, Keeps s.heap h' → Q (.int (paired Ld f ps) tk) { s with heap := h', toks := t' }) →
    wpAny (model prog w) A (call (.ref 281) [.ref c, .ref p]) Q E s := by
  intro f
  induction f with
  | zero =>
    intro A s E Q p ps G ok hc hr hp hok hlen fin
    have he : ps = [] := List.isEmpty_iff.mp hok
    subst he
    exact paired_step hsm hal 0 (fun _ => 0) G ok hc hr hp hlen (fun h => absurd h (by decide)) (fun t h1 h2 => absurd h2 (by simp)) fin
  | succ f ih =>
    intro A s E Q p ps G ok hc hr hp hok hlen fin
    unfold okp at hok
    by_cases he : ps.isEmpty = true
    · have he := List.isEmpty_iff.mp he
      subst he
      exact paired_step hsm hal (f + 1) (fun _ => 0) G ok hc hr hp hlen (fun h => absurd h (by decide)) (fun t h1 h2 => absurd h2 (by simp)) fin
    · rw [Bool.or_eq_true, Bool.and_eq_true, Bool.and_eq_true, decide_eq_true_eq, List.all_eq_true, List.all_eq_true] at hok
      rcases hok with h | ⟨⟨h1, h2⟩, h3⟩
      · exact absurd h he
      refine paired_step hsm hal (f + 1) (paired Ld f) G ok hc hr hp hlen (fun _ => ⟨h1, fun x hx => of_decide_eq_true (h2 x hx)⟩) (fun t t1 t2 {A} {s} {E} {Q} {p} G' ok' hc' hr' hp' fin' => ?_) fin
      have hk := h3 (t - 1) (List.mem_range.mpr (by omega))
      rw [show t - 1 + 1 = t by omega] at hk
      exact ih G' ok' hc' hr' hp' hk (by rw [rest_len ps t t1 t2]; omega) fin'
end
end Mine
end

section
set_option maxRecDepth 100000
set_option Elab.async false
set_option maxHeartbeats 1000000
set_option linter.unusedVariables false
open PySem PySem.Sre PySem.Calls PySem.W PyProof.Rows
namespace Mine
inductive KV : List (Int × Value) → List (Int × Int) → Prop
  | nil : KV [] []
  | cons (k z : Int) (t : Tok) {a : List (Int × Value)} {b : List (Int × Int)} : KV a b → KV ((k, .int z t) :: a) ((k, z) :: b)
def gets (b : List (Int × Int)) (k : Int) : Int := ((b.find? fun p => p.1 = k).map (·.2)).getD 0
def puts (b : List (Int × Int)) (k v : Int) : List (Int × Int) :=
  if b.any (fun p => p.1 = k) then b.map (fun p => if p.1 = k then (p.1, v) else p) else b ++ [(k, v)]
theorem KV.len {a b} (h : KV a b) : a.length = b.length := by
  induction h with
  | nil => rfl
  | cons k z t _ ih => simp [ih]
theorem KV.at_ {a b} (h : KV a b) : ∀ {i : Nat} {q : Int × Value}, a[i]? = some q → ∃ z t, b[i]? = some (q.1, z) ∧ q.2 = .int z t := by
  induction h with
  | nil => intro i q hq; simp at hq
  | @cons k z t a b _ ih =>
    intro i q hq
    cases i with
    | zero => simp at hq; subst hq; exact ⟨z, t, rfl, rfl⟩
    | succ i => simp at hq; simpa using ih hq
theorem KV.value {a b} (h : KV a b) (k : Int) (t : Tok) : ∃ t', (valueAt a k).getD (.int 0 t) = .int (gets b k) t' := by
  induction h with
  | nil => exact ⟨t, rfl⟩
  | @cons k' z u a b _ ih =>
    unfold valueAt gets at ih ⊢
    simp only [List.find?_cons]
    by_cases hk : k' = k
    · simp only [hk, decide_true]
      exact ⟨u, rfl⟩
    · simp only [hk, decide_false]
      exact ih
theorem KV.has {a b} (h : KV a b) (k : Int) (hk : (b.any fun p => p.1 = k) = true) : ∃ t, valueAt a k = some (.int (gets b k) t) := by
  induction h with
  | nil => simp at hk
  | @cons k' z u a b _ ih =>
    unfold valueAt gets at ih ⊢
    simp only [List.find?_cons]
    by_cases hkk : k' = k
    · simp only [hkk, decide_true]
      exact ⟨u, rfl⟩
    · simp only [hkk, decide_false]
      exact ih (by simpa [hkk] using hk)
theorem KV.any {a b} (h : KV a b) (k : Int) : (a.any fun p => p.1 = k) = (b.any fun p => p.1 = k) := by
  induction h with
  | nil => rfl
  | cons k' z u _ ih => simp only [List.any_cons, ih]
theorem KV.map {a b} (h : KV a b) (k z : Int) (t : Tok) : KV (a.map (fun p => if p.1 = k then (p.1, .int z t) else p)) (b.map (fun p => if p.1 = k then (p.1, z) else p)) := by
  induction h with
  | nil => exact .nil
  | cons k' z' u _ ih =>
    simp only [List.map_cons]
    by_cases hk : k' = k
    · simp only [hk, if_true]; exact .cons _ _ _ ih
    · simp only [hk, if_false]; exact .cons _ _ _ ih
theorem KV.snoc {a b} (h : KV a b) (k z : Int) (t : Tok) : KV (a ++ [(k, .int z t)]) (b ++ [(k, z)]) := by
  induction h with
  | nil => exact .cons _ _ _ .nil
  | cons k' z' u _ ih => exact .cons _ _ _ ih
theorem KV.put {a b} (h : KV a b) (k z : Int) (t : Tok) : KV (stored a k (.int z t)) (puts b k z) := by
  unfold stored puts
  rw [h.any k]
  split
  · exact h.map k z t
  · exact h.snoc k z t

def colStep (row : Nat → Int) (mask minor : Int) (st : Int × List (Int × Int)) (col : Nat) : Int × List (Int × Int) :=
  if Builtin.bitAnd mask (2 ^ col) = 0 then (st.1, puts st.2 (Builtin.bitOr mask (2 ^ col)) (gets st.2 (Builtin.bitOr mask (2 ^ col)) + st.1 * row col * minor)) else (-st.1, st.2)
def maskStep (row : Nat → Int) (wd : List (Int × Int)) (q : Int × Int) : List (Int × Int) := ([4, 3, 2, 1, 0].foldl (colStep row q.1 q.2) (1, wd)).2
def rowStep (row : Nat → Int) (ms : List (Int × Int)) : List (Int × Int) := ms.foldl (fun wd q => maskStep row wd (q.1, gets ms q.1)) []
def minorsAt (M : Nat → Nat → Int) : Nat → List (Int × Int)
  | 0 => [(0, 1)]
  | k + 1 => rowStep (M k) (minorsAt M k)
def isD (prog : Program) (w : World) (kvs : List (Int × Value)) (o : Obj) : Prop := ∃ es ep, o.ExactDict ∧ o.data = .dict es ep ∧ KeysOf (intKind prog w) es ∧ Pairs (intKind prog w) es.toList kvs ∧ (kvs.map (·.1)).Nodup
theorem isD.of {prog : Program} {w : World} {kvs : List (Int × Value)} {h : Heap} {d : Addr} (x : ∃ o, h.get? d = some o ∧ isD prog w kvs o) : h.DictOf (intKind prog w) d kvs := let ⟨o, e, es, ep, r⟩ := x; ⟨o, es, ep, e, r⟩
theorem isD.to {prog : Program} {w : World} {kvs : List (Int × Value)} {h : Heap} {d : Addr} (x : h.DictOf (intKind prog w) d kvs) : ∃ o, h.get? d = some o ∧ isD prog w kvs o := let ⟨o, es, ep, e, r⟩ := x; ⟨o, e, es, ep, r⟩
def isDs (prog : Program) (w : World) (l : List (Int × Int)) (o : Obj) : Prop := ∃ kvs, isD prog w kvs o ∧ KV kvs l
theorem isDs.empty {prog : Program} {w : World} : isDs prog w [] { cls := .type "dict", data := .dict #[] } :=
  ⟨[], ⟨#[], 0, ⟨rfl, rfl, rfl⟩, rfl, by intro e he; simp at he, .nil, .nil⟩, .nil⟩
end Mine
end

section
set_option maxRecDepth 100000
set_option Elab.async false
set_option maxHeartbeats 1000000
set_option linter.unusedVariables false
open PySem PySem.Sre PySem.Calls PySem.W PyProof.Rows
namespace Mine
def isBits (o : Obj) : Prop := ∃ vs, isL vs o ∧ IntsAre vs [1, 2, 4, 8, 16]
def leadsUpTo (M : Nat → Nat → Int) (k : Nat) : List Int := (List.range k).map fun j => gets (minorsAt M (j + 1)) (2 ^ (j + 1) - 1)
theorem leadsUpTo_succ (M : Nat → Nat → Int) (k : Nat) : leadsUpTo M (k + 1) = leadsUpTo M k ++ [gets (minorsAt M (k + 1)) (2 ^ (k + 1) - 1)] := by
  unfold leadsUpTo
  rw [List.range_succ, List.map_append]; rfl
/-- the head's object is named -/
theorem Own.pin {h₀ h : Heap} {L : Addr} {m : Loc} {a : Addr} {P : Obj → Prop} {cs : Cells} (O : Own h₀ L m ((a, P) :: cs) h) : ∃ o, P o ∧ Own h₀ L m ((a, fun x => x = o) :: cs) h := by
  obtain ⟨⟨o, e, p⟩, n1, n2⟩ := O.own _ (.head _)
  refine ⟨o, p, O.fr, fun q hq => ?_, O.nd⟩
  cases hq with
  | head => exact ⟨⟨o, e, rfl⟩, n1, n2⟩
  | tail _ hq => exact O.own q (.tail _ hq)
theorem puts_len (b : List (Int × Int)) (k v : Int) : (puts b k v).length ≤ b.length + 1 := by
  unfold puts
  split
  · simp
  · simp
theorem colStep_len (row : Nat → Int) (mask minor : Int) (st : Int × List (Int × Int)) (c : Nat) : (colStep row mask minor st c).2.length ≤ st.2.length + 1 := by
  unfold colStep
  split
  · exact puts_len _ _ _
  · exact Nat.le_succ _
theorem cols_len (row : Nat → Int) (mask minor : Int) : ∀ (cs : List Nat) (st : Int × List (Int × Int)), (cs.foldl (colStep row mask minor) st).2.length ≤ st.2.length + cs.length
  | [], st => Nat.le_refl _
  | c :: cs, st => by
    have h1 := cols_len row mask minor cs (colStep row mask minor st c)
    have h2 := colStep_len row mask minor st c
    rw [List.foldl_cons, List.length_cons]; omega
theorem maskStep_len (row : Nat → Int) (wd : List (Int × Int)) (q : Int × Int) : (maskStep row wd q).length ≤ wd.length + 5 := cols_len row q.1 q.2 [4, 3, 2, 1, 0] (1, wd)
theorem masks_len (row : Nat → Int) (f : Int × Int → Int × Int) : ∀ (ms : List (Int × Int)) (wd : List (Int × Int)), (ms.foldl (fun wd q => maskStep row wd (f q)) wd).length ≤ wd.length + 5 * ms.length
  | [], wd => Nat.le_refl _
  | q :: ms, wd => by
    have h1 := masks_len row f ms (maskStep row wd (f q))
    have h2 := maskStep_len row wd (f q)
    rw [List.foldl_cons, List.length_cons]; omega
theorem minorsAt_len (M : Nat → Nat → Int) : ∀ k, (minorsAt M k).length ≤ 5 ^ k
  | 0 => Nat.le_refl _
  | k + 1 => by
    have h1 := masks_len (M k) (fun q => (q.1, gets (minorsAt M k) q.1)) (minorsAt M k) []
    have h2 := minorsAt_len M k
    have : (minorsAt M (k + 1)).length ≤ 0 + 5 * (minorsAt M k).length := h1
    rw [Nat.pow_succ]; omega
theorem colStep_sign (row : Nat → Int) (mask minor : Int) (st : Int × List (Int × Int)) (c : Nat) (h : st.1.natAbs = 1) : (colStep row mask minor st c).1.natAbs = 1 := by
  unfold colStep
  split
  · exact h
  · show (-st.1).natAbs = 1
    rw [Int.natAbs_neg]; exact h
theorem cols_sign (row : Nat → Int) (mask minor : Int) : ∀ (cs : List Nat) (st : Int × List (Int × Int)), st.1.natAbs = 1 → (cs.foldl (colStep row mask minor) st).1.natAbs = 1
  | [], st, h => h
  | c :: cs, st, h => cols_sign row mask minor cs _ (colStep_sign row mask minor st c h)
/-- the columns, in their order -/
def cols5 : List Nat := [4, 3, 2, 1, 0]
theorem cols5_at : ∀ k, k < 5 → cols5[k]? = some (4 - k) := by decide
theorem cols5_take (k : Nat) (h : k < 5) : cols5.take (k + 1) = cols5.take k ++ [4 - k] := by
  match k, h with
  | 0, _ => rfl
  | 1, _ => rfl
  | 2, _ => rfl
  | 3, _ => rfl
  | 4, _ => rfl
def colsUpTo (row : Nat → Int) (mask minor : Int) (wd : List (Int × Int)) (k : Nat) : Int × List (Int × Int) := (cols5.take k).foldl (colStep row mask minor) (1, wd)
theorem colsUpTo_succ (row : Nat → Int) (mask minor : Int) (wd : List (Int × Int)) {k : Nat} (h : k < 5) : colsUpTo row mask minor wd (k + 1) = colStep row mask minor (colsUpTo row mask minor wd k) (4 - k) := by
  unfold colsUpTo
  rw [cols5_take k h, List.foldl_append]; rfl
theorem colsUpTo_sign (row : Nat → Int) (mask minor : Int) (wd : List (Int × Int)) (k : Nat) : (colsUpTo row mask minor wd k).1.natAbs = 1 := cols_sign row mask minor _ _ rfl
theorem colsUpTo_len (row : Nat → Int) (mask minor : Int) (wd : List (Int × Int)) (k : Nat) : (colsUpTo row mask minor wd k).2.length ≤ wd.length + 5 := by
  have h := cols_len row mask minor (cols5.take k) (1, wd)
  have h2 : (cols5.take k).length ≤ 5 := by rw [List.length_take]; exact Nat.min_le_right _ _
  unfold colsUpTo
  simp only at h
  omega
def masksUpTo (row : Nat → Int) (ms : List (Int × Int)) (k : Nat) : List (Int × Int) := (ms.take k).foldl (fun wd q => maskStep row wd (q.1, gets ms q.1)) []
theorem masksUpTo_succ (row : Nat → Int) (ms : List (Int × Int)) {k : Nat} {q : Int × Int} (h : ms[k]? = some q) : masksUpTo row ms (k + 1) = maskStep row (masksUpTo row ms k) (q.1, gets ms q.1) := by
  unfold masksUpTo
  obtain ⟨hk, e⟩ := List.getElem?_eq_some_iff.mp h
  rw [List.take_succ_eq_append_getElem hk, List.foldl_append, e]; rfl
theorem masksUpTo_all (row : Nat → Int) (ms : List (Int × Int)) : masksUpTo row ms ms.length = rowStep row ms := by
  unfold masksUpTo rowStep
  rw [List.take_length]
theorem masksUpTo_len (row : Nat → Int) (ms : List (Int × Int)) (k : Nat) : (masksUpTo row ms k).length ≤ 5 * ms.length := by
  have h := masks_len row (fun q => (q.1, gets ms q.1)) (ms.take k) []
  have : (ms.take k).length ≤ ms.length := by rw [List.length_take]; exact Nat.min_le_right _ _
  unfold masksUpTo
  simp only [List.length_nil] at h
  omega
section
variable {prog : Program} {w : World} {A : Around} {s : Shared} {env : Env} {E : Value → Shared → Prop} {h₀ : Heap} {L : Addr} {m : Loc} {cs : Cells}
theorem isDs.of {h : Heap} {d : Addr} {l : List (Int × Int)} (x : ∃ o, h.get? d = some o ∧ isDs prog w l o) : ∃ kvs, h.DictOf (intKind prog w) d kvs ∧ KV kvs l := let ⟨o, e, kvs, q, kv⟩ := x; ⟨kvs, isD.of ⟨o, e, q⟩, kv⟩
theorem isDs.to {h : Heap} {d : Addr} {kvs : List (Int × Value)} {l : List (Int × Int)} (x : h.DictOf (intKind prog w) d kvs) (kv : KV kvs l) : ∃ o, h.get? d = some o ∧ isDs prog w l o := let ⟨o, e, q⟩ := isD.to x; ⟨o, e, kvs, q, kv⟩
theorem isKey (g : Int) (t : Tok) : (intKind prog w).is g (.int g t) = true := by show Value.isInt g (.int g t) = true; simp [Value.isInt]
theorem gm_get {d : Addr} {l : List (Int × Int)} {pl : Sem Bool} {Q : Value × List Value → Shared → Prop} (h : ∃ o, s.heap.get? d = some o ∧ isDs prog w l o) (k : Q (.builtin "dict.get", [.ref d]) s) : wpAny (model prog w) A (getMethod (.ref d) "get" pl) Q E s := by
  obtain ⟨kvs, D, kv⟩ := isDs.of h
  exact getMethod_builtin D.mapOf.typeIs PySem.F.plainAttrs_dict PySem.F.slot_dict_get PySem.F.type_dict_get D.mapOf.noDict k
theorem d_get {d : Addr} {l : List (Int × Int)} {g : Int} {t u : Tok} {Q : Value → Shared → Prop} (hd : (d == sysModules) = false) (h : ∃ o, s.heap.get? d = some o ∧ isDs prog w l o) (k : ∀ t' tk, Q (.int (gets l g) tk) { s with toks := t' }) :
    wpAny (model prog w) A (call (.builtin "dict.get") [.ref d, .int g t, .int 0 u]) Q E s := by
  obtain ⟨kvs, D, kv⟩ := isDs.of h
  obtain ⟨t', e⟩ := kv.value g u
  refine call_meetsIn PySem.F.slot_dict_get D.mapOf.typeIs PySem.F.entry_dict_get (PySem.F.args_dict_get_3 _ _ _) (meets_dict_get_default (intKind prog w) d (isKey g t) hd (.int 0 u)) ⟨_, D.mapOf, ?_⟩
  rw [e]
  exact k _ _
theorem sub_dict {value slice : Expr} {pos : Pos} {Q : Value → Shared → Prop}
    (h : wpAny (model prog w) A (eval value env) (fun o s₁ => wpAny (model prog w) A (eval slice env) (fun i s₂ => ∃ d l g t, o = .ref d ∧ i = .int g t ∧ (∃ ob, s₂.heap.get? d = some ob ∧ isDs prog w l ob) ∧ (l.any fun p => p.1 = g) = true ∧ ∀ t' tk, Q (.int (gets l g) tk) { s₂ with toks := t' }) E s₁) E s)
    (hs : ∀ o i, subscripted slice false o i = operate [o, i] (getItem o i) := by intro _ _; with_unfolding_all rfl) :
    wpAny (model prog w) A (eval (.Subscript value slice pos) env) Q E s := by
  refine Subscript_ (wpAny_mono h (fun o s₁ h₁ => wpAny_mono h₁ (fun i s₂ h₂ => ?_) fun _ _ x => x) fun _ _ x => x)
  obtain ⟨d, l, g, t, rfl, rfl, hd, ha, hq⟩ := h₂
  obtain ⟨kvs, D, kv⟩ := isDs.of hd
  obtain ⟨t', e⟩ := kv.has g ha
  exact tail_any D.mapOf.typeIs slot_dict_getitem.lookup (wpAny_getItem_of (isKey g t) D.mapOf e (hq _ _)) (hs _ _)
theorem d_set {d : Addr} {l : List (Int × Int)} {g z : Int} {t u : Tok} {Q : Unit → Shared → Prop} (O : Own h₀ L m ((d, isDs prog w l) :: cs) s.heap) (hl : l.length ≤ sizeLine) (k : ∀ h' t', Own h₀ L m ((d, isDs prog w (puts l g z)) :: cs) h' → Q () { s with heap := h', toks := t' }) :
    wpAny (model prog w) A (setItem (.ref d) (.int g t) (.int z u)) Q E s := by
  obtain ⟨kvs, D, kv⟩ := isDs.of (O.own _ (.head _)).1
  exact wpAny_setItem_pairs (hsz := by rw [kv.len]; exact hl) (isKey g t) D fun h' D' hs => k h' _ (O.set hs (isDs.to D' (kv.put g z u)))
theorem Own.above3 (G : Gl w h₀) {h : Heap} (O : Own h₀ L m cs h) : (h.objs.size == sysModules) = false := by
  obtain ⟨mg, x⟩ := (G.keeps O.keep).g
  have : mainGlobals < h.objs.size := x.lt
  have e : sysModules < mainGlobals := by decide
  exact beq_eq_false_iff_ne.mpr (Nat.ne_of_gt (Nat.lt_trans e this))
theorem o_newDict {pos : Pos} {Q : Value → Shared → Prop} (G : Gl w h₀) (O : Own h₀ L m cs s.heap) (h : ∀ d h' t', (d == sysModules) = false → Own h₀ L m ((d, isDs prog w []) :: cs) h' → Q (.ref d) { s with heap := h', toks := t' }) :
    wpAny (model prog w) A (eval (.Dict [] [] pos) env) Q E s :=
  wpAny_Dict_empty (h _ _ s.toks (O.above3 G) (O.push _ isDs.empty))
/-- {0: 1} -/
theorem o_newDict1 {p0 p1 pos : Pos} {Q : Value → Shared → Prop} (G : Gl w h₀) (O : Own h₀ L m cs s.heap) (h : ∀ d h' t', (d == sysModules) = false → Own h₀ L m ((d, isDs prog w [(0, 1)]) :: cs) h' → Q (.ref d) { s with heap := h', toks := t' }) :
    wpAny (model prog w) A (eval (.Dict [some (.Constant (.int 0) 0 p0)] [.Constant (.int 1) 0 p1] pos) env) Q E s := by
  refine wpAny_Dict_walk (knd := intKind prog w) rfl rfl (by simp) (Nat.le_of_ble_eq_true rfl) (pairTrees_cons_walk (wpAny_Constant_int (wpAny_Constant_int (pairTrees_nil_walk ?_))))
  have O' := O.push { cls := .type "dict", data := .dict #[] } (P := isDs prog w []) isDs.empty
  obtain ⟨kvs, D, kv⟩ := isDs.of (O'.get 0 rfl)
  cases kv
  refine ⟨[(0, .int 1 _)], ⟨rfl, rfl, trivial⟩, D, fun h₂ hd hs => ?_⟩
  exact h _ h₂ _ (O.above3 G) (O'.set hs (isDs.to hd (.cons _ _ _ .nil)))
end
end Mine
end

section
set_option maxRecDepth 100000
set_option Elab.async false
set_option maxHeartbeats 400000
set_option linter.unusedVariables false
open PySem PySem.Sre PySem.Calls PySem.W PyProof.Rows
namespace Mine
theorem se_dict (keys values pos rest env) : starEach (.Dict keys values pos :: rest) env = (false, eval (.Dict keys values pos) env) :: starEach rest env := rfl
theorem cols5_int : ∀ k, k < 5 → ([4, 3, 2, 1, 0] : List Int)[k]? = some (((4 - k : Nat)) : Int) := by decide
theorem bits5_int : ∀ k, k < 5 → ([1, 2, 4, 8, 16] : List Int)[k]? = some (2 ^ k) := by decide
theorem isTup.tuple {h : Heap} {a : Addr} {its : List Value} (x : ∃ o, h.get? a = some o ∧ isTup its o) : h.IsTuple a its.toArray := isTup.is x
theorem bits5_take (k : Nat) (h : k < 5) : ([1, 2, 4, 8, 16] : List Int).take (k + 1) = ([1, 2, 4, 8, 16] : List Int).take k ++ [2 ^ k] := by
  match k, h with
  | 0, _ => rfl
  | 1, _ => rfl
  | 2, _ => rfl
  | 3, _ => rfl
  | 4, _ => rfl
section
variable {prog : Program} {w : World} {A : Around} {s : Shared} {E : Value → Shared → Prop}
theorem leading_spec {n : Nat} {Q : Value → Shared → Prop} {p : Addr} {as : List Addr} {M : Nat → Nat → Int} (G : Gl w s.heap) (ok : Ok A (n + 1 + 1)) (hp : ∃ o, s.heap.get? p = some o ∧ isL (as.map .ref) o) (hal : as.length = 5)
    (hr : ∀ i, i < 5 → ∃ o, s.heap.get? (as.getD i 0) = some o ∧ isInts 5 (M i) o) (hsm : ∀ i, i < 5 → ∀ j, j < 5 → -100 ≤ M i j ∧ M i j ≤ 100)
    (hkey : ∀ k, k < 5 → ((minorsAt M (k + 1)).any fun q => q.1 = 2 ^ (k + 1) - 1) = true)
    (fin : ∀ h' t' a, Fresh s.heap [(a, fun o => ∃ vs, isL vs o ∧ IntsAre vs (leadsUpTo M 5))] h' → Q (.ref a) { s with heap := h', toks := t' }) :
    wpAny (model prog w) A (call (.ref 274) [.ref p]) Q E s := by
  refine call_fn (args := ⟨[.ref p], []⟩) (binds := [("points", .ref p)]) G ok rfl rfl rfl rfl rfl rfl rfl (.of_eq rfl) (by decide) rfl rfl rfl rfl fun h₁ t₁ ok' O => ?_
  generalize hde : Expr.Dict [some (Expr.Constant (Const.int 0) 0 { line := 148, col := 24, endLine := 148, endCol := 25 })] [Expr.Constant (Const.int 1) 0 { line := 148, col := 27, endLine := 148, endCol := 28 }] { line := 148, col := 23, endLine := 148, endCol := 29 } = de
  refine wpAny_execs_cons (assign_two ok'.hd (h₀ := s.heap) (L := s.heap.objs.size) (n1 := "minors") (n2 := "leading") (Tuple_ (wpAny_items_cons ?_ (by rw [← hde]; exact se_dict ..))) (hs := by rfl) (hw := by rw [← hde]; rfl))
  rw [← hde]
  refine o_newDict1 G O fun dm h₂ t₂ hdm O => ?_
  refine wpAny_items_cons (List_ (wpAny_items_nil (o_newList O (by decide) fun ll h₃ t₃ O _ => wpAny_items_nil (o_newTuple O (Nat.le_of_ble_eq_true rfl) fun tup h₄ t₄ O _ => ?_))))
  refine ⟨tup, _, _, _, _, rfl, O.get 0 rfl, O.drop, fun h₅ t₅ O => ?_⟩
  have hpO : ∀ {h m cs}, Own s.heap s.heap.objs.size m cs h → h.IsList p (as.map Value.ref).toArray := fun O => let ⟨o, e, q⟩ := hp; isL.list ⟨o, O.keep _ _ e, q⟩
  have bd1 : (Str.ofString "minors") ≠ Str.ofString "bits" := by decide
  have bd2 : (Str.ofString "leading") ≠ Str.ofString "bits" := by decide
  refine wpAny_execs_cons (comp_assign (iterR 0 5) O (fun k ys cs => k ≤ 5 ∧ cs = [] ∧ IntsAre ys (([1, 2, 4, 8, 16] : List Int).take k)) ok'.hd ?_ (fun _ _ _ _ _ _ _ _ => trivial) ?_ ?_ ?_)
  · refine name_call (nm_blt G O rfl boot_range' (cw_type (wpAny_items_cons (wpAny_Constant_int (wpAny_items_nil ?_)))))
    refine range_1 (n := 5) O (by decide) fun it h₂ t₂ O₂ k₂ le => ?_
    obtain ⟨o, e, p⟩ := (O₂.own _ (.head _)).1
    exact ⟨it, h₂, t₂, [], rfl, rfl, ⟨Fresh.one k₂ (Heap.get?_none_of_le le) e p, le⟩, by decide, rfl, .nil⟩
  · rintro k ys cs ⟨hk5, rfl, hi⟩
    have := hi.length
    rw [List.length_take] at this
    rw [sizeLine_eq]; omega
  · rintro C it acc k v ys cs h t m hk ⟨tv, rfl⟩ ⟨_, rfl, hi⟩ hm O'
    refine wpAny_tests_nil (ite_pos rfl ?_)
    refine name_call (nm_glob (G.keeps O.keep) O' rfl (cw_fn (wpAny_items_cons (wpAny_Constant_int (wpAny_items_cons (nm_loc O' hm (wpAny_items_nil ⟨⟨_, _, (G.keeps (Keeps.trans O.keep O'.keep)).K 214 _ rfl, rfl⟩, ?_⟩)))))))
    refine lshift_spec (n := n) (G.keeps (Keeps.trans O.keep O'.keep)) ok' (by omega) (by omega) (by decide) fun h₆ t₆ tk k₆ => ?_
    have e1 : (1 : Int) * 2 ^ ((0 : Int) + (k : Int)).toNat = 2 ^ k := by rw [Int.one_mul, Int.zero_add]; rfl
    refine ⟨h₆, t₆, m, [], rfl, O'.keeps k₆, hk, rfl, ?_⟩
    rw [bits5_take k hk, e1]
    exact hi.append (.cons _ _ .nil)
  rintro bb ys cs h t ⟨_, rfl, hi⟩ O₆
  have O := O₆.imp (P' := isBits) fun o ho => ⟨ys, ho, hi⟩
  clear O₆
  refine wpAny_execs_cons (wpAny_For (nm_loc O (upd_ne (by decide) (upd_ne (by decide) (upd_ne (by decide) rfl))) (wpAny_pyIter_list (hpO O) ?_)))
  have b1 := upd_ne (v := .ref bb) bd1 (upd_same (upd (fun x => [((Str.ofString "points"), Value.ref p)].reverse.lookup x) (Str.ofString "leading") (.ref ll)) (Str.ofString "minors") (.ref dm))
  have b2 := upd_ne (v := .ref bb) bd2 (upd_ne (v := .ref dm) (show (Str.ofString "leading") ≠ Str.ofString "minors" by decide) (upd_same (fun x => [((Str.ofString "points"), Value.ref p)].reverse.lookup x) (Str.ofString "leading") (.ref ll)))
  have O := O.push { cls := .type "list_iterator", data := .fields #[.ref p, .int 0 0] } (P := isLI p 0) ⟨rfl, rfl⟩
  generalize hit0 : h.objs.size = it0 at O ⊢
  refine for_core (s := s) (iterL p (as.map .ref)) (h₀ := s.heap) (L := s.heap.objs.size) (fun k m cs => ∃ dm vs, m "minors" = some (.ref dm) ∧ m "leading" = some (.ref ll) ∧ m "bits" = some (.ref bb) ∧ (dm == sysModules) = false ∧ IntsAre vs (leadsUpTo M k) ∧ cs = [(bb, isBits), (ll, isL vs), (dm, isDs prog w (minorsAt M k))]) ok'.hd ?_ ?_ ?_ O ⟨dm, [], b1, b2, upd_same .., hdm, .nil, rfl⟩
  · rintro k m cs h ⟨_, _, _, _, _, _, _, rfl⟩ O
    exact hpO O
  · clear O b1 b2 hi hit0 hdm
    rintro k v m cs h t hk hv ⟨dm, vs, b1, b2, b3, hdm, hvs, rfl⟩ O
    rw [List.length_map, hal] at hk
    have hva : v = .ref (as.getD k 0) := by
      rw [List.getElem?_map, List.getElem?_eq_getElem (by omega)] at hv
      rw [List.getD_eq_getElem?_getD, List.getElem?_eq_getElem (by omega)]
      exact (Option.some.inj hv).symm
    subst hva
    have b1 := upd_ne (m := m) (v := .ref (as.getD k 0)) (show (Str.ofString "minors") ≠ Str.ofString "row" by decide) b1
    have b2 := upd_ne (m := m) (v := .ref (as.getD k 0)) (show (Str.ofString "leading") ≠ Str.ofString "row" by decide) b2
    have b3 := upd_ne (m := m) (v := .ref (as.getD k 0)) (show (Str.ofString "bits") ≠ Str.ofString "row" by decide) b3
    have b4 := upd_same m (Str.ofString "row") (.ref (as.getD k 0))
    refine wpAny_execs_cons (wpAny_Assign_Name (o_newDict G O fun wd h₆ t₆ hwd O => st_loc O fun h₇ t₇ O => ?_))
    have b1 := upd_ne (v := .ref wd) (show (Str.ofString "minors") ≠ Str.ofString "wider" by decide) b1
    have b2 := upd_ne (v := .ref wd) (show (Str.ofString "leading") ≠ Str.ofString "wider" by decide) b2
    have b3 := upd_ne (v := .ref wd) (show (Str.ofString "bits") ≠ Str.ofString "wider" by decide) b3
    have b4 := upd_ne (v := .ref wd) (show (Str.ofString "row") ≠ Str.ofString "wider" by decide) b4
    have b5 := upd_same (upd m (Str.ofString "row") (.ref (as.getD k 0))) (Str.ofString "wider") (.ref wd)
    have O := O.front (pre := [_, _, _, _])
    obtain ⟨od, hod, O⟩ := O.pin
    obtain ⟨kvs, ⟨es, ep, hex, hdat, hkeys, hpairs, hnd⟩, kv⟩ := id hod
    have hAt : ∀ {h : Heap}, (∃ o, h.get? dm = some o ∧ o = od) → h.DictAt (intKind prog w) dm kvs ep := by
      rintro h ⟨o, e, rfl⟩
      exact ⟨o, es, e, hex, hdat, hkeys, hpairs, hnd⟩
    have hDs : ∀ {h : Heap}, (∃ o, h.get? dm = some o ∧ o = od) → ∃ o, h.get? dm = some o ∧ isDs prog w (minorsAt M k) o := by
      rintro h ⟨o, e, rfl⟩
      exact ⟨o, e, hod⟩
    have hkl := kv.len
    refine wpAny_execs_cons (wpAny_For (nm_loc O b1 (wpAny_pyIter_dict hdm (hAt (O.get 0 rfl)) ?_)))
    have O := O.push { cls := .type "dict_keyiterator", data := .fields #[.ref dm, .int 0 0, .int kvs.length 0, .int ep 0] } (P := isKI dm kvs.length ep 0) ⟨rfl, rfl⟩
    generalize hit1 : h₇.objs.size = it1 at O ⊢
    refine for_core (s := s) (iterD dm kvs ep) (h₀ := s.heap) (L := s.heap.objs.size) (fun j m cs => m "minors" = some (.ref dm) ∧ m "leading" = some (.ref ll) ∧ m "bits" = some (.ref bb) ∧ m "row" = some (.ref (as.getD k 0)) ∧ m "wider" = some (.ref wd) ∧
      cs = [(dm, fun x => x = od), (wd, isDs prog w (masksUpTo (M k) (minorsAt M k) j)), (it0, isLI p (k + 1)), (bb, isBits), (ll, isL vs)]) ok'.hd ?_ ?_ ?_ O ⟨b1, b2, b3, b4, b5, rfl⟩
    · rintro j m cs h ⟨_, _, _, _, _, rfl⟩ O
      exact hAt (O.get 0 rfl)
    · clear O b1 b2 b3 b4 b5 hit1
      rintro j v m cs h t hj ⟨q, tq, hq, rfl⟩ ⟨b1, b2, b3, b4, b5, rfl⟩ O
      obtain ⟨z, tz, hmq, hqz⟩ := kv.at_ hq
      have hany : ((minorsAt M k).any fun p => p.1 = q.1) = true := List.any_eq_true.mpr ⟨_, List.mem_of_getElem? hmq, decide_eq_true rfl⟩
      have b1 := upd_ne (m := m) (v := .int q.1 tq) (show (Str.ofString "minors") ≠ Str.ofString "mask" by decide) b1
      have b2 := upd_ne (m := m) (v := .int q.1 tq) (show (Str.ofString "leading") ≠ Str.ofString "mask" by decide) b2
      have b3 := upd_ne (m := m) (v := .int q.1 tq) (show (Str.ofString "bits") ≠ Str.ofString "mask" by decide) b3
      have b4 := upd_ne (m := m) (v := .int q.1 tq) (show (Str.ofString "row") ≠ Str.ofString "mask" by decide) b4
      have b5 := upd_ne (m := m) (v := .int q.1 tq) (show (Str.ofString "wider") ≠ Str.ofString "mask" by decide) b5
      have a2 := upd_same m (Str.ofString "mask") (.int q.1 tq)
      refine wpAny_execs_cons (wpAny_Assign_Name (wpAny_Constant_int (st_int (z' := 1) O rfl fun h₈ t₈ tk₈ O => ?_)))
      have b1 := upd_ne (v := .int 1 tk₈) (show (Str.ofString "minors") ≠ Str.ofString "sign" by decide) b1
      have b2 := upd_ne (v := .int 1 tk₈) (show (Str.ofString "leading") ≠ Str.ofString "sign" by decide) b2
      have b3 := upd_ne (v := .int 1 tk₈) (show (Str.ofString "bits") ≠ Str.ofString "sign" by decide) b3
      have b4 := upd_ne (v := .int 1 tk₈) (show (Str.ofString "row") ≠ Str.ofString "sign" by decide) b4
      have b5 := upd_ne (v := .int 1 tk₈) (show (Str.ofString "wider") ≠ Str.ofString "sign" by decide) b5
      have a2 := upd_ne (v := .int 1 tk₈) (show (Str.ofString "mask") ≠ Str.ofString "sign" by decide) a2
      have a1 := upd_same (upd m (Str.ofString "mask") (.int q.1 tq)) (Str.ofString "sign") (.int 1 tk₈)
      refine wpAny_execs_cons (wpAny_For (Tuple_ (wpAny_items_cons (wpAny_Constant_int (wpAny_items_cons (wpAny_Constant_int (wpAny_items_cons (wpAny_Constant_int (wpAny_items_cons (wpAny_Constant_int (wpAny_items_cons (wpAny_Constant_int (wpAny_items_nil (o_newTuple O (Nat.le_of_ble_eq_true rfl) fun tu h₉ t₉ O _ => ?_))))))))))))))
      obtain ⟨cvs, hcv, O⟩ : ∃ cvs, IntsAre cvs [4, 3, 2, 1, 0] ∧ Own s.heap s.heap.objs.size _ ((tu, isTup cvs) :: _) h₉ := ⟨_, .cons _ _ (.cons _ _ (.cons _ _ (.cons _ _ (.cons _ _ .nil)))), O⟩
      have hcl : cvs.length = 5 := hcv.length
      refine wpAny_pyIter_tuple (isTup.tuple (O.get 0 rfl)) ?_
      have O := O.push { cls := .type "tuple_iterator", data := .fields #[.ref tu, .int 0 0] } (P := isTI tu 0) ⟨rfl, rfl⟩
      generalize hit2 : h₉.objs.size = it2 at O ⊢
      refine for_core (s := s) (iterT tu cvs) (h₀ := s.heap) (L := s.heap.objs.size) (fun c m cs => ∃ tk, m "sign" = some (.int (colsUpTo (M k) q.1 (gets (minorsAt M k) q.1) (masksUpTo (M k) (minorsAt M k) j) c).1 tk) ∧ m "mask" = some (.int q.1 tq) ∧ m "minors" = some (.ref dm) ∧ m "leading" = some (.ref ll) ∧ m "bits" = some (.ref bb) ∧ m "row" = some (.ref (as.getD k 0)) ∧ m "wider" = some (.ref wd) ∧
        cs = [(tu, isTup cvs), (it1, isKI dm kvs.length ep (j + 1)), (dm, fun x => x = od), (wd, isDs prog w (colsUpTo (M k) q.1 (gets (minorsAt M k) q.1) (masksUpTo (M k) (minorsAt M k) j) c).2), (it0, isLI p (k + 1)), (bb, isBits), (ll, isL vs)]) ok'.hd ?_ ?_ ?_ O ⟨tk₈, a1, a2, b1, b2, b3, b4, b5, rfl⟩
      · rintro c m cs h ⟨_, _, _, _, _, _, _, _, rfl⟩ O
        exact isTup.tuple (O.get 0 rfl)
      · clear O a1 a2 b1 b2 b3 b4 b5 hit2
        rintro c v m cs h t hc hv ⟨tk, a1, a2, b1, b2, b3, b4, b5, rfl⟩ O
        rw [hcl] at hc
        obtain ⟨tc, hv'⟩ := hcv.get c _ (cols5_int c hc)
        obtain rfl : v = .int ((4 - c : Nat) : Int) tc := Option.some.inj (hv.symm.trans hv')
        clear hv hv'
        have a1 := upd_ne (m := m) (v := .int ((4 - c : Nat) : Int) tc) (show (Str.ofString "sign") ≠ Str.ofString "column" by decide) a1
        have a2 := upd_ne (m := m) (v := .int ((4 - c : Nat) : Int) tc) (show (Str.ofString "mask") ≠ Str.ofString "column" by decide) a2
        have b1 := upd_ne (m := m) (v := .int ((4 - c : Nat) : Int) tc) (show (Str.ofString "minors") ≠ Str.ofString "column" by decide) b1
        have b2 := upd_ne (m := m) (v := .int ((4 - c : Nat) : Int) tc) (show (Str.ofString "leading") ≠ Str.ofString "column" by decide) b2
        have b3 := upd_ne (m := m) (v := .int ((4 - c : Nat) : Int) tc) (show (Str.ofString "bits") ≠ Str.ofString "column" by decide) b3
        have b4 := upd_ne (m := m) (v := .int ((4 - c : Nat) : Int) tc) (show (Str.ofString "row") ≠ Str.ofString "column" by decide) b4
        have b5 := upd_ne (m := m) (v := .int ((4 - c : Nat) : Int) tc) (show (Str.ofString "wider") ≠ Str.ofString "column" by decide) b5
        have a3 := upd_same m (Str.ofString "column") (.int ((4 - c : Nat) : Int) tc)
        have hst := colsUpTo_succ (M k) q.1 (gets (minorsAt M k) q.1) (masksUpTo (M k) (minorsAt M k) j) hc
        have hsg := colsUpTo_sign (M k) q.1 (gets (minorsAt M k) q.1) (masksUpTo (M k) (minorsAt M k) j) c
        have hln := colsUpTo_len (M k) q.1 (gets (minorsAt M k) q.1) (masksUpTo (M k) (minorsAt M k) j) c
        have hln2 := masksUpTo_len (M k) (minorsAt M k) j
        have hln3 := minorsAt_len M k
        have hln4 : 5 ^ k ≤ 5 ^ 4 := Nat.pow_le_pow_right (by decide) (by omega)
        generalize colsUpTo (M k) q.1 (gets (minorsAt M k) q.1) (masksUpTo (M k) (minorsAt M k) j) c = st at a1 O hst hsg hln
        generalize hst' : colsUpTo (M k) q.1 (gets (minorsAt M k) q.1) (masksUpTo (M k) (minorsAt M k) j) (c + 1) = st' at hst
        obtain ⟨sg, wl⟩ := st
        have hbit : ∀ {h m x}, Own s.heap s.heap.objs.size m (x :: [(tu, isTup cvs), (it1, isKI dm kvs.length ep (j + 1)), (dm, fun x => x = od), (wd, isDs prog w wl), (it0, isLI p (k + 1)), (bb, isBits), (ll, isL vs)]) h →
            ∃ bvs tb, (∃ ob, h.get? bb = some ob ∧ isW bvs ob) ∧ bvs[4 - c]? = some (.int (2 ^ (4 - c)) tb) := fun O => by
          obtain ⟨ob, eb, bvs, wb, ib⟩ := O.get 6 rfl
          obtain ⟨tb, hb⟩ := ib.get (4 - c) _ (bits5_int (4 - c) (by omega))
          exact ⟨bvs, tb, ⟨ob, eb, wb.w⟩, hb⟩
        obtain ⟨orow, er, rvs, wr, lr, vr⟩ := hr k hk
        obtain ⟨tr, hrv⟩ := vr (4 - c) (by omega)
        have hsm' := hsm k hk (4 - c) (by omega)
        refine wpAny_execs_cons (wpAny_If (wpAny_isTrue_value (name_call (nm_glob G O rfl (cw_fn (wpAny_items_cons (nm_loc O a2 (wpAny_items_cons (sub_list (nm_loc O b3 (nm_loc O a3 ?_)))))))))))
        obtain ⟨bvs, tb, hbv, hb⟩ := hbit O
        refine ⟨bb, bvs, ((4 - c : Nat) : Int), _, _, rfl, rfl, hbv, by omega, by omega, hb, wpAny_items_nil ⟨⟨_, _, (G.keeps O.keep).K 207 _ rfl, rfl⟩, ?_⟩⟩
        refine and_spec (n := n) (G.keeps O.keep) ok' fun h₁₀ t₁₀ tk₁₀ k₁₀ => PySem.P.truthy_int ?_
        have O := O.keeps k₁₀
        by_cases hz : Builtin.bitAnd q.1 (2 ^ (4 - c)) = 0
        · refine ite_neg (by rw [hz]; decide) ?_
          refine wpAny_execs_cons (wpAny_Assign_Name (name_call (nm_glob G O rfl (cw_fn (wpAny_items_cons (nm_loc O a2 (wpAny_items_cons (sub_list (nm_loc O b3 (nm_loc O a3 ?_)))))))))) 
          obtain ⟨bvs, tb, hbv, hb⟩ := hbit O
          refine ⟨bb, bvs, ((4 - c : Nat) : Int), _, _, rfl, rfl, hbv, by omega, by omega, hb, wpAny_items_nil ⟨⟨_, _, (G.keeps O.keep).K 235 _ rfl, rfl⟩, ?_⟩⟩
          refine or_spec (n := n) (G.keeps O.keep) ok' fun h₁₁ t₁₁ tk₁₁ k₁₁ => ?_
          have O := O.keeps k₁₁
          refine st_int (z' := Builtin.bitOr q.1 (2 ^ (4 - c))) O rfl fun h₁₂ t₁₂ tk₁₂ O => ?_
          have a1 := upd_ne (v := .int (Builtin.bitOr q.1 (2 ^ (4 - c))) tk₁₂) (show (Str.ofString "sign") ≠ Str.ofString "grown" by decide) a1
          have a2 := upd_ne (v := .int (Builtin.bitOr q.1 (2 ^ (4 - c))) tk₁₂) (show (Str.ofString "mask") ≠ Str.ofString "grown" by decide) a2
          have a3 := upd_ne (v := .int (Builtin.bitOr q.1 (2 ^ (4 - c))) tk₁₂) (show (Str.ofString "column") ≠ Str.ofString "grown" by decide) a3
          have b1 := upd_ne (v := .int (Builtin.bitOr q.1 (2 ^ (4 - c))) tk₁₂) (show (Str.ofString "minors") ≠ Str.ofString "grown" by decide) b1
          have b2 := upd_ne (v := .int (Builtin.bitOr q.1 (2 ^ (4 - c))) tk₁₂) (show (Str.ofString "leading") ≠ Str.ofString "grown" by decide) b2
          have b3 := upd_ne (v := .int (Builtin.bitOr q.1 (2 ^ (4 - c))) tk₁₂) (show (Str.ofString "bits") ≠ Str.ofString "grown" by decide) b3
          have b4 := upd_ne (v := .int (Builtin.bitOr q.1 (2 ^ (4 - c))) tk₁₂) (show (Str.ofString "row") ≠ Str.ofString "grown" by decide) b4
          have b5 := upd_ne (v := .int (Builtin.bitOr q.1 (2 ^ (4 - c))) tk₁₂) (show (Str.ofString "wider") ≠ Str.ofString "grown" by decide) b5
          have a4 := upd_same (upd m (Str.ofString "column") (.int ((4 - c : Nat) : Int) tc)) (Str.ofString "grown") (.int (Builtin.bitOr q.1 (2 ^ (4 - c))) tk₁₂)
          have hsg1 : sg.natAbs = 1 := hsg
          have hmul : (sg * M k (4 - c)).natAbs < 2 ^ 64 := by rw [Int.natAbs_mul, hsg1]; omega
          have hlw : wl.length ≤ (masksUpTo (M k) (minorsAt M k) j).length + 5 := hln
          refine wpAny_execs_cons (wpAny_Assign_Subscript (name_call (nm_glob G O rfl (cw_fn (wpAny_items_cons ?_)))))
          refine meth_call (nm_loc O b5 (gm_get (O.get 4 rfl) (cw_blt (wpAny_items_cons (nm_loc O a4 (wpAny_items_cons (wpAny_Constant_int (wpAny_items_nil (d_get hwd (O.get 4 rfl) fun t₁₃ tk₁₃ => ?_)))))))))
          refine wpAny_items_cons (name_call (nm_glob G O rfl (cw_fn (wpAny_items_cons ?_))))
          refine name_call (nm_glob G O rfl (cw_fn (wpAny_items_cons (nm_loc O a1 (wpAny_items_cons (sub_list (nm_loc O b4 (nm_loc O a3 ?_))))))))
          refine ⟨as.getD k 0, rvs, ((4 - c : Nat) : Int), _, _, rfl, rfl, ⟨orow, O.keep _ _ er, wr⟩, by omega, by omega, hrv, wpAny_items_nil ⟨⟨_, _, (G.keeps O.keep).K 221 _ rfl, rfl⟩, ?_⟩⟩
          refine mul_spec (n := n) (G.keeps O.keep) ok' (IntMulOk.of_left (intBits_le (by rw [hsg1]; decide))) fun h₁₄ t₁₄ tk₁₄ k₁₄ => ?_
          have O := O.keeps k₁₄
          refine wpAny_items_cons (sub_dict (nm_loc O b1 (nm_loc O a2 ?_)))
          refine ⟨dm, minorsAt M k, q.1, _, rfl, rfl, hDs (O.get 3 rfl), hany, fun t₁₅ tk₁₅ => ?_⟩
          refine wpAny_items_nil ⟨⟨_, _, (G.keeps O.keep).K 221 _ rfl, rfl⟩, mul_spec (n := n) (G.keeps O.keep) ok' (IntMulOk.of_left (intBits_le hmul)) fun h₁₆ t₁₆ tk₁₆ k₁₆ => ?_⟩
          have O := O.keeps k₁₆
          refine wpAny_items_nil ⟨⟨_, _, (G.keeps O.keep).K 200 _ rfl, rfl⟩, add_spec' (n := n) (G.keeps O.keep) ok' fun h₁₇ t₁₇ tk₁₇ k₁₇ => ?_⟩
          have O := O.keeps k₁₇
          refine nm_loc O b5 (nm_loc O a4 ?_)
          have O := O.front (pre := [_, _, _, _])
          refine d_set O (by rw [sizeLine_eq]; omega) fun h₁₈ t₁₈ O => wpAny_execs_nil (wpAny_execs_nil ?_)
          have e : st' = (sg, puts wl (Builtin.bitOr q.1 (2 ^ (4 - c))) (gets wl (Builtin.bitOr q.1 (2 ^ (4 - c))) + sg * M k (4 - c) * gets (minorsAt M k) q.1)) := by rw [hst]; unfold colStep; rw [if_pos hz]
          subst e
          refine ⟨.inl rfl, h₁₈, t₁₈, _, _, rfl, O.perm (List.perm_middle (l₁ := [_, _, _, _])), tk, a1, a2, b1, b2, b3, b4, b5, rfl⟩
        · refine ite_pos (by simpa using hz) ?_
          refine wpAny_execs_cons (wpAny_Assign_Name (name_call (nm_glob G O rfl (cw_fn (wpAny_items_cons (nm_loc O a1 (wpAny_items_nil ⟨⟨_, _, (G.keeps O.keep).K 228 _ rfl, rfl⟩, ?_⟩)))))))
          refine neg_spec (n := n) (G.keeps O.keep) ok' fun h₁₁ t₁₁ tk₁₁ k₁₁ => ?_
          have O := O.keeps k₁₁
          have e : st' = (-sg, wl) := by rw [hst]; unfold colStep; rw [if_neg hz]
          subst e
          refine st_int (z' := -sg) O rfl fun h₁₂ t₁₂ tk₁₂ O => wpAny_execs_nil (wpAny_execs_nil ?_)
          refine ⟨.inl rfl, h₁₂, t₁₂, _, _, rfl, O, tk₁₂, ?_, upd_ne (by decide) a2, upd_ne (by decide) b1, upd_ne (by decide) b2, upd_ne (by decide) b3, upd_ne (by decide) b4, upd_ne (by decide) b5, ?_⟩
          · exact upd_same ..
          · rfl
      · rintro m cs h t ⟨tk, a1, a2, b1, b2, b3, b4, b5, rfl⟩ O
        have e : (colsUpTo (M k) q.1 (gets (minorsAt M k) q.1) (masksUpTo (M k) (minorsAt M k) j) cvs.length).2 = masksUpTo (M k) (minorsAt M k) (j + 1) := by
          rw [hcl, masksUpTo_succ _ _ hmq]; rfl
        exact wpAny_execs_nil ⟨.inl rfl, h, t, m, _, rfl, O.drop.cast (by rw [e]), b1, b2, b3, b4, b5, rfl⟩
    · clear b1 b2 b3 b4 b5 hit1 O
      rintro m cs h t ⟨b1, b2, b3, b4, b5, rfl⟩ O
      have e : masksUpTo (M k) (minorsAt M k) kvs.length = minorsAt M (k + 1) := by rw [hkl, masksUpTo_all]; rfl
      have O := O.cast (cs' := [(dm, fun x => x = od), (wd, isDs prog w (minorsAt M (k + 1))), (it0, isLI p (k + 1)), (bb, isBits), (ll, isL vs)]) (by rw [e])
      have hvl : vs.length = k := by rw [hvs.length]; simp [leadsUpTo]
      refine wpAny_execs_cons (wpAny_Assign_Name (nm_loc O b5 (st_loc O fun h₈ t₈ O => ?_)))
      have c1 := upd_same m (Str.ofString "minors") (.ref wd)
      have c2 := upd_ne (v := .ref wd) (show (Str.ofString "leading") ≠ Str.ofString "minors" by decide) b2
      have c3 := upd_ne (v := .ref wd) (show (Str.ofString "bits") ≠ Str.ofString "minors" by decide) b3
      have hsz : vs.toArray.size = k := by rw [List.size_toArray, hvl]
      refine wpAny_execs_cons (wpAny_Expr (meth_call (nm_loc O c2 (gm_append (O.get 4 rfl) (cw_blt (wpAny_items_cons ?_))))))
      refine sub_dict (nm_loc O c1 (wpAny_BinOp (wpAny_BinOp (wpAny_Constant_int (wpAny_BinOp (name_call (nm_blt G O rfl boot_len' (cw_blt (wpAny_items_cons (nm_loc O c2 (wpAny_items_nil ?_)))))))))))
      refine PyProof.Rows.len_list (isL.list (O.get 4 rfl)) (by omega) (wpAny_Constant_int (PyProof.Rows.add_int (pow_int_small (by omega) (by omega) (by decide) (wpAny_Constant_int (PyProof.Rows.sub_int ?_)))))
      have e2 : (2 : Int) ^ (((vs.toArray.size : Nat) : Int) + 1).toNat - 1 = 2 ^ (k + 1) - 1 := by rw [hsz]; rfl
      refine ⟨wd, minorsAt M (k + 1), _, _, rfl, rfl, O.get 1 rfl, by rw [e2]; exact hkey k hk, fun t₉ tk₉ => wpAny_items_nil ?_⟩
      have O := O.front (pre := [_, _, _, _])
      refine o_append O (by rw [hvl, sizeLine_eq]; omega) fun h₁₀ t₁₀ O => ?_
      have O := (O.sub (cs' := [(ll, _), (wd, _), (it0, _), (bb, _)]) (.cons_cons _ (.cons _ (List.Sublist.refl _)))).perm (List.perm_append_comm (l₁ := [(it0, isLI p (k + 1)), (bb, isBits)]) (l₂ := [(ll, _), (wd, isDs prog w (minorsAt M (k + 1)))]))
      refine wpAny_execs_nil ⟨.inl rfl, h₁₀, t₁₀, _, _, rfl, O, wd, _, c1, c2, c3, hwd, ?_, rfl⟩
      rw [leadsUpTo_succ, ← e2]
      exact hvs.append (.cons _ _ .nil)
  · rintro m cs h t ⟨dm, vs, b1, b2, b3, _, hvs, rfl⟩ O
    rw [List.length_map, hal] at hvs
    exact wpAny_execs_cons (wpAny_Return_some (nm_loc O b2 (fin _ _ _ (((O.drop.imp (P' := fun o => ∃ vs, isL vs o ∧ IntsAre vs (leadsUpTo M 5)) fun o ho => ⟨vs, ho, hvs⟩).sub (.cons_cons _ (.cons _ .slnil))).fresh))))
end
end Mine
end

section
set_option maxRecDepth 100000
set_option Elab.async false
set_option maxHeartbeats 1000000
set_option linter.unusedVariables false
open PySem PySem.Sre PySem.Calls PySem.W PyProof.Rows
namespace Mine
theorem md1 (F : Nat → Nat → Int) : gets (minorsAt F 1) (2 ^ 1 - 1) = (0 + 1 * F 0 0 * 1) := by kernel_rfl
theorem md2 (F : Nat → Nat → Int) : gets (minorsAt F 2) (2 ^ 2 - 1) = ((0 + (-1) * F 1 0 * (0 + 1 * F 0 1 * 1)) + 1 * F 1 1 * (0 + 1 * F 0 0 * 1)) := by kernel_rfl
theorem md3 (F : Nat → Nat → Int) : gets (minorsAt F 3) (2 ^ 3 - 1) = (((0 + (-(-1)) * F 2 0 * ((0 + (-1) * F 1 1 * (0 + 1 * F 0 2 * 1)) + 1 * F 1 2 * (0 + 1 * F 0 1 * 1))) + (-1) * F 2 1 * ((0 + (-1) * F 1 0 * (0 + 1 * F 0 2 * 1)) + 1 * F 1 2 * (0 + 1 * F 0 0 * 1))) + 1 * F 2 2 * ((0 + (-1) * F 1 0 * (0 + 1 * F 0 1 * 1)) + 1 * F 1 1 * (0 + 1 * F 0 0 * 1))) := by kernel_rfl
theorem md4 (F : Nat → Nat → Int) : gets (minorsAt F 4) (2 ^ 4 - 1) = ((((0 + (-(-(-1))) * F 3 0 * (((0 + (-(-1)) * F 2 1 * ((0 + (-1) * F 1 2 * (0 + 1 * F 0 3 * 1)) + 1 * F 1 3 * (0 + 1 * F 0 2 * 1))) + (-1) * F 2 2 * ((0 + (-1) * F 1 1 * (0 + 1 * F 0 3 * 1)) + 1 * F 1 3 * (0 + 1 * F 0 1 * 1))) + 1 * F 2 3 * ((0 + (-1) * F 1 1 * (0 + 1 * F 0 2 * 1)) + 1 * F 1 2 * (0 + 1 * F 0 1 * 1)))) + (-(-1)) * F 3 1 * (((0 + (-(-1)) * F 2 0 * ((0 + (-1) * F 1 2 * (0 + 1 * F 0 3 * 1)) + 1 * F 1 3 * (0 + 1 * F 0 2 * 1))) + (-1) * F 2 2 * ((0 + (-1) * F 1 0 * (0 + 1 * F 0 3 * 1)) + 1 * F 1 3 * (0 + 1 * F 0 0 * 1))) + 1 * F 2 3 * ((0 + (-1) * F 1 0 * (0 + 1 * F 0 2 * 1)) + 1 * F 1 2 * (0 + 1 * F 0 0 * 1)))) + (-1) * F 3 2 * (((0 + (-(-1)) * F 2 0 * ((0 + (-1) * F 1 1 * (0 + 1 * F 0 3 * 1)) + 1 * F 1 3 * (0 + 1 * F 0 1 * 1))) + (-1) * F 2 1 * ((0 + (-1) * F 1 0 * (0 + 1 * F 0 3 * 1)) + 1 * F 1 3 * (0 + 1 * F 0 0 * 1))) + 1 * F 2 3 * ((0 + (-1) * F 1 0 * (0 + 1 * F 0 1 * 1)) + 1 * F 1 1 * (0 + 1 * F 0 0 * 1)))) + 1 * F 3 3 * (((0 + (-(-1)) * F 2 0 * ((0 + (-1) * F 1 1 * (0 + 1 * F 0 2 * 1)) + 1 * F 1 2 * (0 + 1 * F 0 1 * 1))) + (-1) * F 2 1 * ((0 + (-1) * F 1 0 * (0 + 1 * F 0 2 * 1)) + 1 * F 1 2 * (0 + 1 * F 0 0 * 1))) + 1 * F 2 2 * ((0 + (-1) * F 1 0 * (0 + 1 * F 0 1 * 1)) + 1 * F 1 1 * (0 + 1 * F 0 0 * 1)))) := by kernel_rfl
theorem md5 (F : Nat → Nat → Int) : gets (minorsAt F 5) (2 ^ 5 - 1) = (((((0 + (-(-(-(-1)))) * F 4 0 * ((((0 + (-(-(-1))) * F 3 1 * (((0 + (-(-1)) * F 2 2 * ((0 + (-1) * F 1 3 * (0 + 1 * F 0 4 * 1)) + 1 * F 1 4 * (0 + 1 * F 0 3 * 1))) + (-1) * F 2 3 * ((0 + (-1) * F 1 2 * (0 + 1 * F 0 4 * 1)) + 1 * F 1 4 * (0 + 1 * F 0 2 * 1))) + 1 * F 2 4 * ((0 + (-1) * F 1 2 * (0 + 1 * F 0 3 * 1)) + 1 * F 1 3 * (0 + 1 * F 0 2 * 1)))) + (-(-1)) * F 3 2 * (((0 + (-(-1)) * F 2 1 * ((0 + (-1) * F 1 3 * (0 + 1 * F 0 4 * 1)) + 1 * F 1 4 * (0 + 1 * F 0 3 * 1))) + (-1) * F 2 3 * ((0 + (-1) * F 1 1 * (0 + 1 * F 0 4 * 1)) + 1 * F 1 4 * (0 + 1 * F 0 1 * 1))) + 1 * F 2 4 * ((0 + (-1) * F 1 1 * (0 + 1 * F 0 3 * 1)) + 1 * F 1 3 * (0 + 1 * F 0 1 * 1)))) + (-1) * F 3 3 * (((0 + (-(-1)) * F 2 1 * ((0 + (-1) * F 1 2 * (0 + 1 * F 0 4 * 1)) + 1 * F 1 4 * (0 + 1 * F 0 2 * 1))) + (-1) * F 2 2 * ((0 + (-1) * F 1 1 * (0 + 1 * F 0 4 * 1)) + 1 * F 1 4 * (0 + 1 * F 0 1 * 1))) + 1 * F 2 4 * ((0 + (-1) * F 1 1 * (0 + 1 * F 0 2 * 1)) + 1 * F 1 2 * (0 + 1 * F 0 1 * 1)))) + 1 * F 3 4 * (((0 + (-(-1)) * F 2 1 * ((0 + (-1) * F 1 2 * (0 + 1 * F 0 3 * 1)) + 1 * F 1 3 * (0 + 1 * F 0 2 * 1))) + (-1) * F 2 2 * ((0 + (-1) * F 1 1 * (0 + 1 * F 0 3 * 1)) + 1 * F 1 3 * (0 + 1 * F 0 1 * 1))) + 1 * F 2 3 * ((0 + (-1) * F 1 1 * (0 + 1 * F 0 2 * 1)) + 1 * F 1 2 * (0 + 1 * F 0 1 * 1))))) + (-(-(-1))) * F 4 1 * ((((0 + (-(-(-1))) * F 3 0 * (((0 + (-(-1)) * F 2 2 * ((0 + (-1) * F 1 3 * (0 + 1 * F 0 4 * 1)) + 1 * F 1 4 * (0 + 1 * F 0 3 * 1))) + (-1) * F 2 3 * ((0 + (-1) * F 1 2 * (0 + 1 * F 0 4 * 1)) + 1 * F 1 4 * (0 + 1 * F 0 2 * 1))) + 1 * F 2 4 * ((0 + (-1) * F 1 2 * (0 + 1 * F 0 3 * 1)) + 1 * F 1 3 * (0 + 1 * F 0 2 * 1)))) + (-(-1)) * F 3 2 * (((0 + (-(-1)) * F 2 0 * ((0 + (-1) * F 1 3 * (0 + 1 * F 0 4 * 1)) + 1 * F 1 4 * (0 + 1 * F 0 3 * 1))) + (-1) * F 2 3 * ((0 + (-1) * F 1 0 * (0 + 1 * F 0 4 * 1)) + 1 * F 1 4 * (0 + 1 * F 0 0 * 1))) + 1 * F 2 4 * ((0 + (-1) * F 1 0 * (0 + 1 * F 0 3 * 1)) + 1 * F 1 3 * (0 + 1 * F 0 0 * 1)))) + (-1) * F 3 3 * (((0 + (-(-1)) * F 2 0 * ((0 + (-1) * F 1 2 * (0 + 1 * F 0 4 * 1)) + 1 * F 1 4 * (0 + 1 * F 0 2 * 1))) + (-1) * F 2 2 * ((0 + (-1) * F 1 0 * (0 + 1 * F 0 4 * 1)) + 1 * F 1 4 * (0 + 1 * F 0 0 * 1))) + 1 * F 2 4 * ((0 + (-1) * F 1 0 * (0 + 1 * F 0 2 * 1)) + 1 * F 1 2 * (0 + 1 * F 0 0 * 1)))) + 1 * F 3 4 * (((0 + (-(-1)) * F 2 0 * ((0 + (-1) * F 1 2 * (0 + 1 * F 0 3 * 1)) + 1 * F 1 3 * (0 + 1 * F 0 2 * 1))) + (-1) * F 2 2 * ((0 + (-1) * F 1 0 * (0 + 1 * F 0 3 * 1)) + 1 * F 1 3 * (0 + 1 * F 0 0 * 1))) + 1 * F 2 3 * ((0 + (-1) * F 1 0 * (0 + 1 * F 0 2 * 1)) + 1 * F 1 2 * (0 + 1 * F 0 0 * 1))))) + (-(-1)) * F 4 2 * ((((0 + (-(-(-1))) * F 3 0 * (((0 + (-(-1)) * F 2 1 * ((0 + (-1) * F 1 3 * (0 + 1 * F 0 4 * 1)) + 1 * F 1 4 * (0 + 1 * F 0 3 * 1))) + (-1) * F 2 3 * ((0 + (-1) * F 1 1 * (0 + 1 * F 0 4 * 1)) + 1 * F 1 4 * (0 + 1 * F 0 1 * 1))) + 1 * F 2 4 * ((0 + (-1) * F 1 1 * (0 + 1 * F 0 3 * 1)) + 1 * F 1 3 * (0 + 1 * F 0 1 * 1)))) + (-(-1)) * F 3 1 * (((0 + (-(-1)) * F 2 0 * ((0 + (-1) * F 1 3 * (0 + 1 * F 0 4 * 1)) + 1 * F 1 4 * (0 + 1 * F 0 3 * 1))) + (-1) * F 2 3 * ((0 + (-1) * F 1 0 * (0 + 1 * F 0 4 * 1)) + 1 * F 1 4 * (0 + 1 * F 0 0 * 1))) + 1 * F 2 4 * ((0 + (-1) * F 1 0 * (0 + 1 * F 0 3 * 1)) + 1 * F 1 3 * (0 + 1 * F 0 0 * 1)))) + (-1) * F 3 3 * (((0 + (-(-1)) * F 2 0 * ((0 + (-1) * F 1 1 * (0 + 1 * F 0 4 * 1)) + 1 * F 1 4 * (0 + 1 * F 0 1 * 1))) + (-1) * F 2 1 * ((0 + (-1) * F 1 0 * (0 + 1 * F 0 4 * 1)) + 1 * F 1 4 * (0 + 1 * F 0 0 * 1))) + 1 * F 2 4 * ((0 + (-1) * F 1 0 * (0 + 1 * F 0 1 * 1)) + 1 * F 1 1 * (0 + 1 * F 0 0 * 1)))) + 1 * F 3 4 * (((0 + (-(-1)) * F 2 0 * ((0 + (-1) * F 1 1 * (0 + 1 * F 0 3 * 1)) + 1 * F 1 3 * (0 + 1 * F 0 1 * 1))) + (-1) * F 2 1 * ((0 + (-1) * F 1 0 * (0 + 1 * F 0 3 * 1)) + 1 * F 1 3 * (0 + 1 * F 0 0 * 1))) + 1 * F 2 3 * ((0 + (-1) * F 1 0 * (0 + 1 * F 0 1 * 1)) + 1 * F 1 1 * (0 + 1 * F 0 0 * 1))))) + (-1) * F 4 3 * ((((0 + (-(-(-1))) * F 3 0 * (((0 + (-(-1)) * F 2 1 * ((0 + (-1) * F 1 2 * (0 + 1 * F 0 4 * 1)) + 1 * F 1 4 * (0 + 1 * F 0 2 * 1))) + (-1) * F 2 2 * ((0 + (-1) * F 1 1 * (0 + 1 * F 0 4 * 1)) + 1 * F 1 4 * (0 + 1 * F 0 1 * 1))) + 1 * F 2 4 * ((0 + (-1) * F 1 1 * (0 + 1 * F 0 2 * 1)) + 1 * F 1 2 * (0 + 1 * F 0 1 * 1)))) + (-(-1)) * F 3 1 * (((0 + (-(-1)) * F 2 0 * ((0 + (-1) * F 1 2 * (0 + 1 * F 0 4 * 1)) + 1 * F 1 4 * (0 + 1 * F 0 2 * 1))) + (-1) * F 2 2 * ((0 + (-1) * F 1 0 * (0 + 1 * F 0 4 * 1)) + 1 * F 1 4 * (0 + 1 * F 0 0 * 1))) + 1 * F 2 4 * ((0 + (-1) * F 1 0 * (0 + 1 * F 0 2 * 1)) + 1 * F 1 2 * (0 + 1 * F 0 0 * 1)))) + (-1) * F 3 2 * (((0 + (-(-1)) * F 2 0 * ((0 + (-1) * F 1 1 * (0 + 1 * F 0 4 * 1)) + 1 * F 1 4 * (0 + 1 * F 0 1 * 1))) + (-1) * F 2 1 * ((0 + (-1) * F 1 0 * (0 + 1 * F 0 4 * 1)) + 1 * F 1 4 * (0 + 1 * F 0 0 * 1))) + 1 * F 2 4 * ((0 + (-1) * F 1 0 * (0 + 1 * F 0 1 * 1)) + 1 * F 1 1 * (0 + 1 * F 0 0 * 1)))) + 1 * F 3 4 * (((0 + (-(-1)) * F 2 0 * ((0 + (-1) * F 1 1 * (0 + 1 * F 0 2 * 1)) + 1 * F 1 2 * (0 + 1 * F 0 1 * 1))) + (-1) * F 2 1 * ((0 + (-1) * F 1 0 * (0 + 1 * F 0 2 * 1)) + 1 * F 1 2 * (0 + 1 * F 0 0 * 1))) + 1 * F 2 2 * ((0 + (-1) * F 1 0 * (0 + 1 * F 0 1 * 1)) + 1 * F 1 1 * (0 + 1 * F 0 0 * 1))))) + 1 * F 4 4 * ((((0 + (-(-(-1))) * F 3 0 * (((0 + (-(-1)) * F 2 1 * ((0 + (-1) * F 1 2 * (0 + 1 * F 0 3 * 1)) + 1 * F 1 3 * (0 + 1 * F 0 2 * 1))) + (-1) * F 2 2 * ((0 + (-1) * F 1 1 * (0 + 1 * F 0 3 * 1)) + 1 * F 1 3 * (0 + 1 * F 0 1 * 1))) + 1 * F 2 3 * ((0 + (-1) * F 1 1 * (0 + 1 * F 0 2 * 1)) + 1 * F 1 2 * (0 + 1 * F 0 1 * 1)))) + (-(-1)) * F 3 1 * (((0 + (-(-1)) * F 2 0 * ((0 + (-1) * F 1 2 * (0 + 1 * F 0 3 * 1)) + 1 * F 1 3 * (0 + 1 * F 0 2 * 1))) + (-1) * F 2 2 * ((0 + (-1) * F 1 0 * (0 + 1 * F 0 3 * 1)) + 1 * F 1 3 * (0 + 1 * F 0 0 * 1))) + 1 * F 2 3 * ((0 + (-1) * F 1 0 * (0 + 1 * F 0 2 * 1)) + 1 * F 1 2 * (0 + 1 * F 0 0 * 1)))) + (-1) * F 3 2 * (((0 + (-(-1)) * F 2 0 * ((0 + (-1) * F 1 1 * (0 + 1 * F 0 3 * 1)) + 1 * F 1 3 * (0 + 1 * F 0 1 * 1))) + (-1) * F 2 1 * ((0 + (-1) * F 1 0 * (0 + 1 * F 0 3 * 1)) + 1 * F 1 3 * (0 + 1 * F 0 0 * 1))) + 1 * F 2 3 * ((0 + (-1) * F 1 0 * (0 + 1 * F 0 1 * 1)) + 1 * F 1 1 * (0 + 1 * F 0 0 * 1)))) + 1 * F 3 3 * (((0 + (-(-1)) * F 2 0 * ((0 + (-1) * F 1 1 * (0 + 1 * F 0 2 * 1)) + 1 * F 1 2 * (0 + 1 * F 0 1 * 1))) + (-1) * F 2 1 * ((0 + (-1) * F 1 0 * (0 + 1 * F 0 2 * 1)) + 1 * F 1 2 * (0 + 1 * F 0 0 * 1))) + 1 * F 2 2 * ((0 + (-1) * F 1 0 * (0 + 1 * F 0 1 * 1)) + 1 * F 1 1 * (0 + 1 * F 0 0 * 1))))) := by kernel_rfl
theorem pd1 (Ld : Nat → Nat → Int) : paired Ld 3 [0, 5] = (0 - (-1) * Ld 0 5 * 1) := by kernel_rfl
theorem pd2 (Ld : Nat → Nat → Int) : paired Ld 3 [0, 1] = (0 - (-1) * Ld 0 1 * 1) := by kernel_rfl
theorem pd3 (Ld : Nat → Nat → Int) : paired Ld 3 [0, 1, 2, 5] = (((0 - (-1) * Ld 0 1 * (0 - (-1) * Ld 2 5 * 1)) - 1 * Ld 0 2 * (0 - (-1) * Ld 1 5 * 1)) - (-1) * Ld 0 5 * (0 - (-1) * Ld 1 2 * 1)) := by kernel_rfl
theorem pd4 (Ld : Nat → Nat → Int) : paired Ld 3 [0, 1, 2, 3] = (((0 - (-1) * Ld 0 1 * (0 - (-1) * Ld 2 3 * 1)) - 1 * Ld 0 2 * (0 - (-1) * Ld 1 3 * 1)) - (-1) * Ld 0 3 * (0 - (-1) * Ld 1 2 * 1)) := by kernel_rfl
theorem pd5 (Ld : Nat → Nat → Int) : paired Ld 3 [0, 1, 2, 3, 4, 5] = (((((0 - (-1) * Ld 0 1 * (((0 - (-1) * Ld 2 3 * (0 - (-1) * Ld 4 5 * 1)) - 1 * Ld 2 4 * (0 - (-1) * Ld 3 5 * 1)) - (-1) * Ld 2 5 * (0 - (-1) * Ld 3 4 * 1))) - 1 * Ld 0 2 * (((0 - (-1) * Ld 1 3 * (0 - (-1) * Ld 4 5 * 1)) - 1 * Ld 1 4 * (0 - (-1) * Ld 3 5 * 1)) - (-1) * Ld 1 5 * (0 - (-1) * Ld 3 4 * 1))) - (-1) * Ld 0 3 * (((0 - (-1) * Ld 1 2 * (0 - (-1) * Ld 4 5 * 1)) - 1 * Ld 1 4 * (0 - (-1) * Ld 2 5 * 1)) - (-1) * Ld 1 5 * (0 - (-1) * Ld 2 4 * 1))) - 1 * Ld 0 4 * (((0 - (-1) * Ld 1 2 * (0 - (-1) * Ld 3 5 * 1)) - 1 * Ld 1 3 * (0 - (-1) * Ld 2 5 * 1)) - (-1) * Ld 1 5 * (0 - (-1) * Ld 2 3 * 1))) - (-1) * Ld 0 5 * (((0 - (-1) * Ld 1 2 * (0 - (-1) * Ld 3 4 * 1)) - 1 * Ld 1 3 * (0 - (-1) * Ld 2 4 * 1)) - (-1) * Ld 1 4 * (0 - (-1) * Ld 2 3 * 1))) := by kernel_rfl
def places (c : Nat) : List Nat := List.range c ++ (if c % 2 = 1 then [5] else [])
theorem id1 (F Ld : Nat → Nat → Int) (c : Int) (f00 : F 0 0 = c) (g0 : Ld 0 5 = 1) : gets (minorsAt F 1) (2 ^ 1 - 1) = (paired Ld 3 [0, 5]) ^ 2 * c := by
  rw [md1, pd1]
  simp only [f00, g0]
  grind
theorem id2 (F Ld : Nat → Nat → Int) (c : Int) (f00 : F 0 0 = c) (f01 : F 0 1 = c + Ld 0 1) (f10 : F 1 0 = c - Ld 0 1) (f11 : F 1 1 = c) : gets (minorsAt F 2) (2 ^ 2 - 1) = (paired Ld 3 [0, 1]) ^ 2 * 1 := by
  rw [md2, pd2]
  simp only [f00, f01, f10, f11]
  grind
theorem id3 (F Ld : Nat → Nat → Int) (c : Int) (f00 : F 0 0 = c) (f01 : F 0 1 = c + Ld 0 1) (f02 : F 0 2 = c + Ld 0 2) (f10 : F 1 0 = c - Ld 0 1) (f11 : F 1 1 = c) (f12 : F 1 2 = c + Ld 1 2) (f20 : F 2 0 = c - Ld 0 2) (f21 : F 2 1 = c - Ld 1 2) (f22 : F 2 2 = c) (g0 : Ld 0 5 = 1) (g1 : Ld 1 5 = 1) (g2 : Ld 2 5 = 1) : gets (minorsAt F 3) (2 ^ 3 - 1) = (paired Ld 3 [0, 1, 2, 5]) ^ 2 * c := by
  rw [md3, pd3]
  simp only [f00, f01, f02, f10, f11, f12, f20, f21, f22, g0, g1, g2]
  grind
theorem id4 (F Ld : Nat → Nat → Int) (c : Int) (f00 : F 0 0 = c) (f01 : F 0 1 = c + Ld 0 1) (f02 : F 0 2 = c + Ld 0 2) (f03 : F 0 3 = c + Ld 0 3) (f10 : F 1 0 = c - Ld 0 1) (f11 : F 1 1 = c) (f12 : F 1 2 = c + Ld 1 2) (f13 : F 1 3 = c + Ld 1 3) (f20 : F 2 0 = c - Ld 0 2) (f21 : F 2 1 = c - Ld 1 2) (f22 : F 2 2 = c) (f23 : F 2 3 = c + Ld 2 3) (f30 : F 3 0 = c - Ld 0 3) (f31 : F 3 1 = c - Ld 1 3) (f32 : F 3 2 = c - Ld 2 3) (f33 : F 3 3 = c) : gets (minorsAt F 4) (2 ^ 4 - 1) = (paired Ld 3 [0, 1, 2, 3]) ^ 2 * 1 := by
  rw [md4, pd4]
  simp only [f00, f01, f02, f03, f10, f11, f12, f13, f20, f21, f22, f23, f30, f31, f32, f33]
  grind
theorem id5 (F Ld : Nat → Nat → Int) (c : Int) (f00 : F 0 0 = c) (f01 : F 0 1 = c + Ld 0 1) (f02 : F 0 2 = c + Ld 0 2) (f03 : F 0 3 = c + Ld 0 3) (f04 : F 0 4 = c + Ld 0 4) (f10 : F 1 0 = c - Ld 0 1) (f11 : F 1 1 = c) (f12 : F 1 2 = c + Ld 1 2) (f13 : F 1 3 = c + Ld 1 3) (f14 : F 1 4 = c + Ld 1 4) (f20 : F 2 0 = c - Ld 0 2) (f21 : F 2 1 = c - Ld 1 2) (f22 : F 2 2 = c) (f23 : F 2 3 = c + Ld 2 3) (f24 : F 2 4 = c + Ld 2 4) (f30 : F 3 0 = c - Ld 0 3) (f31 : F 3 1 = c - Ld 1 3) (f32 : F 3 2 = c - Ld 2 3) (f33 : F 3 3 = c) (f34 : F 3 4 = c + Ld 3 4) (f40 : F 4 0 = c - Ld 0 4) (f41 : F 4 1 = c - Ld 1 4) (f42 : F 4 2 = c - Ld 2 4) (f43 : F 4 3 = c - Ld 3 4) (f44 : F 4 4 = c) (g0 : Ld 0 5 = 1) (g1 : Ld 1 5 = 1) (g2 : Ld 2 5 = 1) (g3 : Ld 3 5 = 1) (g4 : Ld 4 5 = 1) : gets (minorsAt F 5) (2 ^ 5 - 1) = (paired Ld 3 [0, 1, 2, 3, 4, 5]) ^ 2 * c := by
  rw [md5, pd5]
  simp only [f00, f01, f02, f03, f04, f10, f11, f12, f13, f14, f20, f21, f22, f23, f24, f30, f31, f32, f33, f34, f40, f41, f42, f43, f44, g0, g1, g2, g3, g4]
  grind
theorem law_poly (F Ld : Nat → Nat → Int) (c : Int) (hF : ∀ i, i < 5 → ∀ j, j < 5 → F i j = c + Ld i j) (h0 : ∀ i, i < 5 → Ld i i = 0) (ha : ∀ i, i < 5 → ∀ j, j < 5 → Ld j i = -Ld i j) (h5 : ∀ i, i < 5 → Ld i 5 = 1) :
    ∀ k, k < 5 → gets (minorsAt F (k + 1)) (2 ^ (k + 1) - 1) = (paired Ld 3 (places (k + 1))) ^ 2 * (if (k + 1) % 2 = 1 then c else 1) := by
  intro k hk
  have d : ∀ i, i < 5 → F i i = c := fun i hi => by rw [hF i hi i hi, h0 i hi, Int.add_zero]
  have u : ∀ i, i < 5 → ∀ j, j < 5 → F j i = c - Ld i j := fun i hi j hj => by rw [hF j hj i hi, ha i hi j hj]; rfl
  match k, hk with
  | 0, _ => exact id1 F Ld c (d 0 (by decide)) (h5 0 (by decide))
  | 1, _ => exact id2 F Ld c (d 0 (by decide)) (hF 0 (by decide) 1 (by decide)) (u 0 (by decide) 1 (by decide)) (d 1 (by decide))
  | 2, _ => exact id3 F Ld c (d 0 (by decide)) (hF 0 (by decide) 1 (by decide)) (hF 0 (by decide) 2 (by decide)) (u 0 (by decide) 1 (by decide)) (d 1 (by decide)) (hF 1 (by decide) 2 (by decide)) (u 0 (by decide) 2 (by decide)) (u 1 (by decide) 2 (by decide)) (d 2 (by decide)) (h5 0 (by decide)) (h5 1 (by decide)) (h5 2 (by decide))
  | 3, _ => exact id4 F Ld c (d 0 (by decide)) (hF 0 (by decide) 1 (by decide)) (hF 0 (by decide) 2 (by decide)) (hF 0 (by decide) 3 (by decide)) (u 0 (by decide) 1 (by decide)) (d 1 (by decide)) (hF 1 (by decide) 2 (by decide)) (hF 1 (by decide) 3 (by decide)) (u 0 (by decide) 2 (by decide)) (u 1 (by decide) 2 (by decide)) (d 2 (by decide)) (hF 2 (by decide) 3 (by decide)) (u 0 (by decide) 3 (by decide)) (u 1 (by decide) 3 (by decide)) (u 2 (by decide) 3 (by decide)) (d 3 (by decide))
  | 4, _ => exact id5 F Ld c (d 0 (by decide)) (hF 0 (by decide) 1 (by decide)) (hF 0 (by decide) 2 (by decide)) (hF 0 (by decide) 3 (by decide)) (hF 0 (by decide) 4 (by decide)) (u 0 (by decide) 1 (by decide)) (d 1 (by decide)) (hF 1 (by decide) 2 (by decide)) (hF 1 (by decide) 3 (by decide)) (hF 1 (by decide) 4 (by decide)) (u 0 (by decide) 2 (by decide)) (u 1 (by decide) 2 (by decide)) (d 2 (by decide)) (hF 2 (by decide) 3 (by decide)) (hF 2 (by decide) 4 (by decide)) (u 0 (by decide) 3 (by decide)) (u 1 (by decide) 3 (by decide)) (u 2 (by decide) 3 (by decide)) (d 3 (by decide)) (hF 3 (by decide) 4 (by decide)) (u 0 (by decide) 4 (by decide)) (u 1 (by decide) 4 (by decide)) (u 2 (by decide) 4 (by decide)) (u 3 (by decide) 4 (by decide)) (d 4 (by decide)) (h5 0 (by decide)) (h5 1 (by decide)) (h5 2 (by decide)) (h5 3 (by decide)) (h5 4 (by decide))

theorem key_there (F : Nat → Nat → Int) : ∀ k, k < 5 → ((minorsAt F (k + 1)).any fun q => q.1 = 2 ^ (k + 1) - 1) = true := by
  intro k hk
  match k, hk with
  | 0, _ => kernel_rfl
  | 1, _ => kernel_rfl
  | 2, _ => kernel_rfl
  | 3, _ => kernel_rfl
  | 4, _ => kernel_rfl
theorem lex_rep : ∀ a b : Nat, (List.replicate a 46 : List Nat) < List.replicate b 46 ↔ a < b
  | 0, 0 => by simp
  | 0, b + 1 => by simp [List.replicate_succ]
  | a + 1, 0 => by simp
  | a + 1, b + 1 => by
    rw [List.replicate_succ, List.replicate_succ, List.cons_lt_cons_iff]
    have := lex_rep a b
    simp only [Nat.lt_irrefl, true_and, false_or, this]
    omega
def leadM (M : Nat → Nat → Int) (i j : Nat) : Int := if j = 5 then 1 else M i j + 3 * (if M i j > 0 then 1 else 0) - 3 * (if M i j < 0 then 1 else 0)
theorem pv_eq {M : Nat → Nat → Int} {T i j : Nat} (hj : j < 5) (h1 : -3 ≤ M i j) (h2 : M i j ≤ 3) (ha : M j i = -M i j) : pv M T i j = (4 + (T : Int)) + leadM M i j := by
  unfold pv leadM dots
  simp only [tx_cps, lex_rep]
  unfold rdots
  rw [if_neg (show ¬ j = 5 by omega), ha]
  by_cases hp : M i j > 0
  · rw [if_pos (by omega), if_neg (by omega), if_pos hp, if_neg (by omega)]; omega
  · by_cases hn : M i j < 0
    · rw [if_neg (by omega), if_pos (by omega), if_neg hp, if_pos hn]; omega
    · rw [if_neg (by omega), if_neg (by omega), if_neg hp, if_neg hn]; omega
theorem goalM_le (f : Nat → Int) (i j : Nat) : -3 ≤ goalM f i j ∧ goalM f i j ≤ 3 := by
  have h : ∀ z : Int, 0 ≤ z.fmod 7 ∧ z.fmod 7 < 7 := fun z => ⟨Int.fmod_nonneg_of_pos z (by decide), Int.fmod_lt_of_pos z (by decide)⟩
  unfold goalM G2
  split
  · have := h (f (tri j + i)); omega
  · split
    · have := h (f (tri i + j)); omega
    · omega
theorem goalM_anti (f : Nat → Int) (i j : Nat) : goalM f j i = -goalM f i j := by
  unfold goalM G2
  by_cases h1 : i < j ∧ (j < 5 ∨ (j = 5 ∧ i < 0))
  · rw [if_pos h1, if_neg (by omega), if_pos h1]; omega
  · by_cases h2 : j < i ∧ (i < 5 ∨ (i = 5 ∧ j < 0))
    · rw [if_pos h2, if_neg h1, if_pos h2]; omega
    · rw [if_neg h2, if_neg h1, if_neg h1, if_neg h2]; rfl
theorem goalM_zero (f : Nat → Int) (i : Nat) : goalM f i i = 0 := by
  have := goalM_anti f i i; omega
theorem leadM_le (f : Nat → Int) (i j : Nat) : -9 ≤ leadM (goalM f) i j ∧ leadM (goalM f) i j ≤ 9 := by
  have := goalM_le f i j
  unfold leadM
  split
  · omega
  · split <;> split <;> omega
def toldUpTo (Ld : Nat → Nat → Int) (c : Int) (k : Nat) : List Int := (List.range k).map fun j => (paired Ld 3 (places (j + 1))) ^ 2 * (if (j + 1) % 2 = 1 then c else 1)
theorem toldUpTo_succ (Ld : Nat → Nat → Int) (c : Int) (k : Nat) : toldUpTo Ld c (k + 1) = toldUpTo Ld c k ++ [(paired Ld 3 (places (k + 1))) ^ 2 * (if (k + 1) % 2 = 1 then c else 1)] := by
  unfold toldUpTo
  rw [List.range_succ, List.map_append]; rfl
/-- the law, plain -/
theorem law_plain (f : Nat → Int) (T : Nat) : leadsUpTo (pv (goalM f) T) 5 = toldUpTo (leadM (goalM f)) (4 + (T : Int)) 5 := by
  unfold leadsUpTo toldUpTo
  apply List.map_congr_left
  intro k hk
  rw [List.mem_range] at hk
  refine law_poly _ _ _ (fun i hi j hj => pv_eq hj (goalM_le f i j).1 (goalM_le f i j).2 (goalM_anti f i j)) (fun i hi => ?_) (fun i hi j hj => ?_) (fun i hi => if_pos rfl) k hk
  · unfold leadM
    rw [if_neg (by omega), goalM_zero]; rfl
  · unfold leadM
    rw [if_neg (show ¬ i = 5 by omega), if_neg (show ¬ j = 5 by omega), goalM_anti f i j]
    split <;> split <;> split <;> split <;> omega
theorem pv_small (f : Nat → Int) {T : Nat} (hT : T ≤ 2) : ∀ i, i < 5 → ∀ j, j < 5 → -100 ≤ pv (goalM f) T i j ∧ pv (goalM f) T i j ≤ 100 := by
  intro i hi j hj
  rw [pv_eq hj (goalM_le f i j).1 (goalM_le f i j).2 (goalM_anti f i j)]
  have := leadM_le f i j
  omega
end Mine
end

section
set_option maxRecDepth 100000
set_option Elab.async false
set_option maxHeartbeats 1000000
set_option linter.unusedVariables false
open PySem PySem.Sre PySem.Calls PySem.W PyProof.Rows
namespace Mine
/-- the cells the law reads -/
def cellsOf (ns : List Int) : List Int := (((ns.take 12).map fun (z : Int) => z.fmod ((10 : Int) ^ (6 : Int).toNat)) ++ [5, 1, 3, 0, 6, 4, 2, 3, 6, 1, 1, 4]).take 12
theorem cellsOf_len (ns : List Int) : (cellsOf ns).length = 12 := by simp [cellsOf]
theorem ints_of {c : Nat} {l : List Int} {vs : List Value} (h : IntsAre vs l) (hl : l.length = c) {o : Obj} (w : isW vs o) : isInts c (fun j => l.getD j 0) o := by
  refine ⟨vs, w, by rw [h.length, hl], fun j hj => h.get j _ ?_⟩
  show l[j]? = some (l.getD j 0)
  rw [List.getD_eq_getElem?_getD, List.getElem?_eq_getElem (by omega)]; rfl
theorem ints_as {c : Nat} {l : List Int} {g : Nat → Int} {vs : List Value} (h : IntsAre vs l) (hl : l.length = c) (hg : ∀ j, j < c → l[j]? = some (g j)) {o : Obj} (w : isW vs o) : isInts c g o :=
  ⟨vs, w, by rw [h.length, hl], fun j hj => h.get j _ (hg j hj)⟩
theorem lead_at (M : Nat → Nat → Int) (i : Nat) : ∀ j, j < 6 → ((List.range 5).map (leadM M i) ++ [1])[j]? = some (leadM M i j)
  | 0, _ | 1, _ | 2, _ | 3, _ | 4, _ | 5, _ => rfl
theorem lead_eq (M : Nat → Nat → Int) (i j : Nat) (hj : j < 5) : M i j + 3 * (if decide (M i j > 0) = true then (1 : Int) else 0) - 3 * (if decide (M i j < 0) = true then (1 : Int) else 0) = leadM M i j := by
  unfold leadM
  rw [if_neg (show ¬ j = 5 by omega)]
  simp only [decide_eq_true_eq]
theorem ints_rep {vs : List Value} {ns : List Int} (h : IntsAre vs ns) : ∀ n : Nat, IntsAre (List.replicate n vs).flatten (List.replicate n ns).flatten
  | 0 => .nil
  | n + 1 => by
    rw [List.replicate_succ, List.replicate_succ, List.flatten_cons, List.flatten_cons]
    exact h.append (ints_rep h n)
theorem odd_at : ∀ k, k < 5 → (((k + 1 : Nat)) : Int).fmod 2 = (((k + 1) % 2 : Nat) : Int) := by decide
theorem ints_eq {vs us : List Value} {l : List Int} (h1 : IntsAre vs l) (h2 : IntsAre us l) (j : Nat) (p : j < vs.toArray.size) (q : j < us.toArray.size) : PySem.MeetsSeq.EqGives vs.toArray[j] us.toArray[j] true := by
  have p' : j < vs.length := by simpa using p
  have q' : j < us.length := by simpa using q
  obtain ⟨z, t, e1, e2⟩ := h1.at j vs[j] (List.getElem?_eq_getElem p')
  obtain ⟨u, e3⟩ := h2.get j z e2
  have e4 : us[j] = .int z u := by rw [List.getElem?_eq_getElem q'] at e3; exact Option.some.inj e3
  have := PySem.MeetsSeq.EqGives.int z z t u
  rw [beq_self_eq_true] at this
  simpa [e1, e4] using this
theorem paired_le (f : Nat → Int) : ∀ (n : Nat) (ps : List Nat), ps.length ≤ 6 → (paired (leadM (goalM f)) n ps).natAbs ≤ 60 ^ n
  | 0, ps, _ => by
    unfold paired
    split <;> decide
  | n + 1, ps, hl => by
    have hrec : ∀ t, t < ps.length - 1 → (paired (leadM (goalM f)) n (rest ps (t + 1))).natAbs ≤ 60 ^ n := fun t ht => paired_le f n _ (by rw [rest_len ps (t + 1) (by omega) (by omega)]; omega)
    have step : ∀ k, k ≤ ps.length - 1 → ((List.range k).foldl (fun acc t => acc - (-1) ^ (t + 1) * leadM (goalM f) (ps.getD 0 0) (ps.getD (t + 1) 0) * paired (leadM (goalM f)) n (rest ps (t + 1))) (if ps.isEmpty then 1 else 0 : Int)).natAbs ≤ 1 + k * (9 * 60 ^ n) := by
      intro k
      induction k with
      | zero => intro _; simp only [List.range_zero, List.foldl_nil]; split <;> simp
      | succ k ih =>
        intro hk
        rw [List.range_succ, List.foldl_append, List.foldl_cons, List.foldl_nil]
        have h1 := ih (by omega)
        generalize (List.range k).foldl _ _ = acc at h1 ⊢
        have h2 := hrec k (by omega)
        have h3 := leadM_le f (ps.getD 0 0) (ps.getD (k + 1) 0)
        have h4 : ((-1 : Int) ^ (k + 1) * leadM (goalM f) (ps.getD 0 0) (ps.getD (k + 1) 0) * paired (leadM (goalM f)) n (rest ps (k + 1))).natAbs ≤ 9 * 60 ^ n := by
          rw [Int.natAbs_mul, Int.natAbs_mul, Int.natAbs_pow]
          have e1 : (-1 : Int).natAbs ^ (k + 1) = 1 := by simp
          rw [e1, Nat.one_mul]
          exact Nat.mul_le_mul (by omega) h2
        generalize (-1 : Int) ^ (k + 1) * leadM (goalM f) (ps.getD 0 0) (ps.getD (k + 1) 0) * paired (leadM (goalM f)) n (rest ps (k + 1)) = d at h4 ⊢
        have e : (k + 1) * (9 * 60 ^ n) = k * (9 * 60 ^ n) + 9 * 60 ^ n := Nat.succ_mul ..
        rw [e]; omega
    have h5 := step (ps.length - 1) (Nat.le_refl _)
    have h6 : (ps.length - 1) * (9 * 60 ^ n) ≤ 5 * (9 * 60 ^ n) := Nat.mul_le_mul_right _ (by omega)
    have h7 : 1 ≤ 60 ^ n := Nat.one_le_pow _ _ (by decide)
    have h8 : (60 : Nat) ^ (n + 1) = 60 ^ n * 60 := Nat.pow_succ ..
    unfold paired
    omega
theorem places_ok : ∀ k, k < 5 → okp 3 (places (k + 1)) = true ∧ (places (k + 1)).length ≤ 6 := by decide
theorem places_eq : ∀ k, k < 5 → nInts (places (k + 1)) = ([0, 1, 2, 3, 4] : List Int).take (k + 1) ++ (List.replicate ((k + 1) % 2) ([5] : List Int)).flatten := by decide
section
variable {prog : Program} {w : World} {A : Around} {s : Shared} {env : Env} {E : Value → Shared → Prop}
/-- an iterator over a fresh slice -/
theorem slice_iter {value : Expr} {lower upper : Option Expr} {p pos : Pos} {its : List Value} {lo hi : Option Int} {Q : Value → Shared → Prop}
    (h : wpAny (model prog w) A (eval value env) (fun o s₁ => wpAny (model prog w) A (evalPart lower env) (fun vl s₂ => wpAny (model prog w) A (evalPart upper env) (fun vu s₃ =>
      ∃ l t₃, o = .ref l ∧ s₃ = { s with toks := t₃ } ∧ s.heap.IsList l its.toArray ∧ its.length ≤ sizeLine ∧ IsPart vl lo ∧ IsPart vu hi) E s₂) E s₁) E s)
    (hq : ∀ it h' t', Fresh s.heap [(it, isLI (s.heap.objs.size + 1) 0), (s.heap.objs.size + 1, isL (slicePick its.toArray lo hi none).toList)] h' → s.heap.objs.size ≤ it → Q (.ref it) { s with heap := h', toks := t' }) :
    wpAny (model prog w) A (eval (.Subscript value (.Slice lower upper none p) pos) env) (fun xv s₁ => wpAny (model prog w) A (pyIter xv) Q E s₁) E s := by
  refine sub_slice (wpAny_mono h (fun o s₁ h₁ => wpAny_mono h₁ (fun vl s₂ h₂ => wpAny_mono h₂ (fun vu s₃ h₃ => ?_) fun _ _ e => e) fun _ _ e => e) fun _ _ e => e)
  obtain ⟨l, t₃, rfl, rfl, hl, hsz, pl, pu⟩ := h₃
  refine ⟨l, _, lo, hi, rfl, hl, by simpa using hsz, pl, pu, ?_⟩
  have F := ((Fresh.refl s.heap).push { cls := .type "slice", data := .fields #[vl, vu, .none] } (P := fun _ => True) trivial).push { cls := .type "list", data := .seq (slicePick its.toArray lo hi none) } (P := isL (slicePick its.toArray lo hi none).toList) ⟨0, by simp⟩
  rw [Heap.size_push] at F
  refine wpAny_pyIter_list (isL.list (F.own _ (.head _)).1) ?_
  have F := F.push { cls := .type "list_iterator", data := .fields #[.ref (s.heap.objs.size + 1), .int 0 0] } (P := isLI (s.heap.objs.size + 1) 0) ⟨rfl, rfl⟩
  refine hq _ _ _ (F.sub (.cons_cons _ (.cons_cons _ (.cons _ .slnil)))) ?_
  rw [Heap.size_push, Heap.size_push]
  show s.heap.objs.size ≤ s.heap.objs.size + 1 + 1
  omega
theorem mod_to {a b z : Int} {t u : Tok} {Q : Value → Shared → Prop} (hb : b ≠ 0) (e : a.fmod b = z) (h : ∀ t' tk, Q (.int z tk) { s with toks := t' }) : wpAny (model prog w) A (binaryOp .Mod (.int a t) (.int b u)) Q E s := by
  subst e
  exact mod_int' hb (h _ _)
theorem ints_data : ∀ {ns : List Int} {vs : List Value}, DataAre vs (ns.map PyData.int) → IntsAre vs ns
  | [], _, .nil => .nil
  | n :: ns, _, .cons (v := v) h r => by
    obtain ⟨t, rfl⟩ : ∃ t, v = Value.int n t := by cases h {}; exact ⟨_, rfl⟩
    exact .cons n t (ints_data r)
theorem strs_data : ∀ {xs : List Str} {vs : List Value}, DataAre vs (xs.map PyData.str) → StrsAre vs xs
  | [], _, .nil => .nil
  | x :: xs, _, .cons (v := v) h r => by
    obtain ⟨t, rfl⟩ : ∃ t, v = Value.str x t := by cases h {}; exact ⟨_, rfl⟩
    exact .cons x t (strs_data r)
theorem list_ints {h₀ : Heap} {L : Addr} {m : Loc} {cs : Cells} {elts : List Expr} {pos : Pos} {ns : List Int} {Q : Value → Shared → Prop} (O : Own h₀ L m cs s.heap) (he : tupLitsOf elts = some (ns.map PyData.int)) (hn : ns.length ≤ 1000)
    (h : ∀ a h' t' vs, IntsAre vs ns → Own h₀ L m ((a, isL vs) :: cs) h' → Q (.ref a) { s with heap := h', toks := t' }) : wpAny (model prog w) A (eval (.List elts pos) env) Q E s := by
  refine List_ (spliced_lits elts _ s _ he fun vs tk hvs => ?_)
  have hi := ints_data hvs
  exact o_newList O (by rw [hi.length, sizeLine_eq]; omega) fun a h' t' O' _ => h a h' t' vs hi O'
theorem list_strs {h₀ : Heap} {L : Addr} {m : Loc} {cs : Cells} {elts : List Expr} {pos : Pos} {xs : List Str} {Q : Value → Shared → Prop} (O : Own h₀ L m cs s.heap) (he : tupLitsOf elts = some (xs.map PyData.str)) (hn : xs.length ≤ 1000)
    (h : ∀ a h' t' vs, StrsAre vs xs → Own h₀ L m ((a, isL vs) :: cs) h' → Q (.ref a) { s with heap := h', toks := t' }) : wpAny (model prog w) A (eval (.List elts pos) env) Q E s := by
  refine List_ (spliced_lits elts _ s _ he fun vs tk hvs => ?_)
  have hi := strs_data hvs
  exact o_newList O (by rw [hi.length, sizeLine_eq]; omega) fun a h' t' O' _ => h a h' t' vs hi O'
theorem pack3 {h₀ h : Heap} {L : Addr} {m0 : Loc} {cs : Cells} {x y u : Str} {v1 v2 : Value} {z z' : Int} {tk : Tok} (O : Own h₀ L (upd (upd (upd m0 x v1) y (.int z tk)) u v2) cs h) (e : z = z') (n1 : x ≠ u) (n2 : x ≠ y) (n3 : y ≠ u) :
    ∃ (m : Loc) (tk : Tok), m x = some v1 ∧ m u = some v2 ∧ m y = some (.int z' tk) ∧ Own h₀ L m cs h := by
  subst e
  exact ⟨_, tk, upd_ne n1 (upd_ne n2 (upd_same ..)), upd_same .., upd_ne n3 (upd_same ..), O⟩
theorem pack {h₀ h : Heap} {L : Addr} {m : Loc} {cs : Cells} {x : Str} {v : Value} (O : Own h₀ L (upd m x v) cs h) : ∃ m' : Loc, m' x = some v ∧ (∀ y r, y ≠ x → m y = r → m' y = r) ∧ Own h₀ L m' cs h :=
  ⟨_, upd_same .., fun y r n e => upd_ne n e, O⟩
theorem add_to {a b z : Int} {t u : Tok} {Q : Value → Shared → Prop} (e : a + b = z) (h : ∀ t' tk, Q (.int z tk) { s with toks := t' }) : wpAny (model prog w) A (binaryOp .Add (.int a t) (.int b u)) Q E s := by
  subst e
  exact PyProof.Rows.add_int (h _ _)
end
end Mine
end

section
set_option maxRecDepth 100000
set_option Elab.async false
set_option maxHeartbeats 1000000
set_option linter.unusedVariables false
open PySem PySem.Sre PySem.Calls PySem.W PyProof.Rows
namespace Mine
def cellAt (ns : List Int) (j : Nat) : Int := (cellsOf ns).getD j 0
section
variable {prog : Program} {w : World} {A : Around} {s : Shared} {E : Value → Shared → Prop}
theorem law_spec {Q : Flow → Shared → Prop} {fa l : Addr} {cd : Value} {o : Obj} {fd : FuncData} {body : List Stmt} {vs : List Value} {ns : List Int} {h₁ : Heap} {t₁ : Nat}
    (hf : (Mine.hd.heap_39 w.params).lookup 286 = some o) (hdata : o.data = .func fd) (hbody : fd.body = .stmts body) (G : Gl w s.heap) (ok : Ok A 4)
    (O : Own s.heap s.heap.objs.size (fun x => [((Str.ofString "script"), Value.ref l)].reverse.lookup x) [] h₁) (hl : s.heap.IsList l vs.toArray) (hi : IntsAre vs ns) (hlen : ns.length ≤ 63)
    (fin : ∀ h' t' m', Fr s.heap s.heap.objs.size h' m' → Q (.ret (.bool true)) { s with heap := h', toks := t' }) :
    wpAny (model prog w) A (execs body (envOf "law" fd.scope s.heap.objs.size fa cd)) Q E { s with heap := h₁, toks := t₁ } := by
  obtain rfl := Option.some.inj hf
  obtain rfl := Data.func.inj hdata
  obtain rfl := FuncBody.stmts.inj hbody
  clear hf hdata hbody
  have hvl : vs.length = ns.length := hi.length
  have hll : ∀ {h m cs}, Own s.heap s.heap.objs.size m cs h → h.IsList l vs.toArray := fun O => let ⟨o, e, r⟩ := hl; ⟨o, O.keep _ _ e, r⟩
  have hlen2 := cellsOf_len ns
  -- cells
  refine wpAny_execs_cons (wpAny_Assign_Name (o_slice (h₀ := s.heap) (L := s.heap.objs.size) (wpAny_BinOp ?_)))
  refine comp_eval (iterL (h₁.objs.size + 1) (vs.take 12)) (fun k ys cs => k ≤ 12 ∧ cs = [(h₁.objs.size + 1, isL (vs.take 12))] ∧ IntsAre ys (((ns.take 12).take k).map fun (z : Int) => z.fmod ((10 : Int) ^ (6 : Int).toNat))) ok.hd ?_ ?_ ?_ ?_ ?_
  · refine slice_iter (its := vs) (lo := none) (hi := some ((12 : Nat) : Int)) (nm_loc O rfl (wpAny_evalPart_none (wpAny_evalPart_some (wpAny_Constant_int ⟨l, _, rfl, rfl, hll O, by rw [hvl, sizeLine_eq]; omega, .none, .int _ _⟩)))) fun it h' t' F le => ?_
    rw [slicePick_upto'] at F
    exact ⟨it, h', t', _, rfl, rfl, ⟨F, le⟩, by decide, rfl, .nil⟩
  · rintro C k ys m cs h ⟨_, rfl, _⟩ O
    exact isL.list (O.get 0 rfl)
  · rintro k ys cs ⟨hk, _, h⟩
    have := h.length
    rw [List.length_map, List.length_take] at this
    rw [sizeLine_eq]; omega
  · rintro C it acc k v ys cs h t m hk hv ⟨_, rfl, hys⟩ hm O'
    have hk12 : k < 12 := by rw [List.length_take] at hk; omega
    obtain ⟨z, tz, rfl, hz⟩ := (hi.take 12).at k v hv
    refine wpAny_tests_nil (ite_pos rfl ?_)
    refine wpAny_BinOp (name_call (nm_blt (G.keeps O.keep) O' rfl boot_int' (cw_type (wpAny_items_cons (nm_loc O' hm (wpAny_items_nil (call_int_int ?_)))))))
    refine wpAny_BinOp (wpAny_Constant_int (wpAny_Constant_int (pow_int_small (by decide) (by decide) (by decide) (mod_to (by decide) rfl fun t₂ tk₂ => ?_))))
    refine ⟨h, t₂, m, _, rfl, O', hk12, rfl, ?_⟩
    rw [List.take_succ_eq_append_getElem (List.getElem?_eq_some_iff.mp hz).1, (List.getElem?_eq_some_iff.mp hz).2, List.map_append]
    exact hys.append (.cons _ _ .nil)
  rintro D ys cs h t ⟨_, rfl, hys⟩ F
  have O := O.join F
  have hle : ys.length ≤ 12 := by
    have := hys.length
    rw [List.length_map, List.length_take, List.length_take, List.length_take] at this
    omega
  rw [show (vs.take 12).length = (ns.take 12).length by rw [List.length_take, List.length_take, hvl], List.take_length] at hys
  refine @list_ints prog w A _ _ _ s.heap s.heap.objs.size _ _ _ _ [5, 1, 3, 0, 6, 4, 2, 3, 6, 1, 1, 4] _ O rfl (by decide) fun b h₂ t₂ bvs hb O => ?_
  have hbl : bvs.length = 12 := hb.length
  refine o_add O (O.get 1 rfl) (O.get 0 rfl) (by rw [sizeLine_eq]; omega) fun c h₃ t₃ O _ => ?_
  refine wpAny_evalPart_none (wpAny_evalPart_some (wpAny_Constant_int ?_))
  refine ⟨c, ys ++ bvs, none, some ((12 : Nat) : Int), _, _, rfl, isL.list (O.get 0 rfl), by rw [List.length_append, sizeLine_eq]; omega, .none, .int _ _, O, fun ca h₄ t₄ _ O _ => ?_⟩
  rw [slicePick_upto'] at O
  have O := (O.imp (P' := isInts 12 (cellAt ns)) fun o ho => ints_of ((hys.append hb).take 12) (cellsOf_len ns) ho.w).sub (cs' := [(ca, isInts 12 (cellAt ns))]) (.cons_cons _ (List.nil_sublist _))
  refine st_loc O fun h₅ t₅ O => ?_
  clear hys hb
  generalize cellAt ns = f at O
  -- goals, turns
  have b1 := upd_same (fun x => [((Str.ofString "script"), Value.ref l)].reverse.lookup x) (Str.ofString "cells") (.ref ca)
  refine wpAny_execs_cons (assign_two ok.hd (h₀ := s.heap) (L := s.heap.objs.size) (n1 := "goals") (n2 := "turns") (Tuple_ (wpAny_items_cons ?_)))
  refine name_call (nm_glob G O rfl (cw_fn (wpAny_items_cons (nm_loc O b1 (wpAny_items_nil ⟨⟨_, _, (G.keeps O.keep).K 257 _ rfl, rfl⟩, ?_⟩)))))
  refine goals_spec (n := 3) (G.keeps O.keep) ok (O.get 0 rfl) fun h₆ t₆ ga as hal F => ?_
  have O := (O.join F).perm (List.perm_append_comm (l₁ := [(ca, isInts 12 f)]) (l₂ := (ga, isW (as.map .ref)) :: rowcells as (goalM f) 5))
  obtain ⟨oc, ec, cvs, wc, lc, vc⟩ := O.get 0 rfl
  obtain ⟨t10, v10⟩ := vc 10 (by decide)
  refine wpAny_items_cons (wpAny_BinOp (wpAny_BinOp (sub_list (nm_loc O b1 (wpAny_Constant_int ?_)))))
  refine ⟨ca, cvs, 10, _, _, rfl, rfl, ⟨oc, ec, wc⟩, by decide, by decide, v10, ?_⟩
  obtain ⟨T, hT, T1, T2⟩ : ∃ T : Nat, (f 10).fmod 2 + 1 = (T : Int) ∧ 1 ≤ T ∧ T ≤ 2 := by
    have h1 := Int.fmod_nonneg_of_pos (f 10) (b := 2) (by decide)
    have h2 := Int.fmod_lt_of_pos (f 10) (b := 2) (by decide)
    exact ⟨((f 10).fmod 2 + 1).toNat, by omega, by omega, by omega⟩
  refine wpAny_Constant_int (mod_to (by decide) rfl fun t₆ tk₆ => wpAny_Constant_int (add_to hT fun t₆ tk₆ => wpAny_items_nil (o_newTuple O (Nat.le_of_ble_eq_true rfl) fun tu h₇ t₇ O _ => ?_)))
  refine ⟨tu, _, _, _, _, rfl, O.get 0 rfl, O.drop, fun h₈ t₈ O => ?_⟩
  change wpAny _ _ _ _ _ { s with heap := h₈, toks := t₈ }
  obtain ⟨m, tkT, b1, b2, b3, O⟩ := pack3 O rfl (by decide) (by decide) (by decide)
  clear v10 t10 vc lc wc ec oc cvs
  -- end
  obtain ⟨r, hr, hr3⟩ : ∃ r : Nat, ((f 11).fdiv 5).fmod 3 = (r : Int) ∧ r < 3 := by
    have h1 := Int.fmod_nonneg_of_pos ((f 11).fdiv 5) (b := 3) (by decide)
    have h2 := Int.fmod_lt_of_pos ((f 11).fdiv 5) (b := 3) (by decide)
    exact ⟨(((f 11).fdiv 5).fmod 3).toNat, by omega, by omega⟩
  obtain ⟨st, hst, hst5⟩ : ∃ st : Nat, (f 11).fmod 5 = (st : Int) ∧ st < 5 := by
    have h1 := Int.fmod_nonneg_of_pos (f 11) (b := 5) (by decide)
    have h2 := Int.fmod_lt_of_pos (f 11) (b := 5) (by decide)
    exact ⟨((f 11).fmod 5).toNat, by omega, by omega⟩
  obtain ⟨e, hen, hex⟩ : ∃ e : List Nat, (e = [10] ∨ e = [13] ∨ e = [13, 10]) ∧ [Str.ofString "\n", Str.ofString "\x0d", Str.ofString "\x0d\n"][r]? = some (tx e) := by
    match r, hr3 with
    | 0, _ => exact ⟨[10], .inl rfl, by decide +kernel⟩
    | 1, _ => exact ⟨[13], .inr (.inl rfl), by decide +kernel⟩
    | 2, _ => exact ⟨[13, 10], .inr (.inr rfl), by decide +kernel⟩
  refine wpAny_execs_cons (wpAny_Assign_Name (sub_list ?_))
  refine @list_strs prog w A _ _ _ s.heap s.heap.objs.size _ _ _ _ [Str.ofString "\n", Str.ofString "\x0d", Str.ofString "\x0d\n"] _ O rfl (by decide) fun le h₉ t₉ evs hev O => ?_
  obtain ⟨oc, ec, cvs, wc, lc, vc⟩ := O.get 1 rfl
  obtain ⟨t11, v11⟩ := vc 11 (by decide)
  obtain ⟨te, hve⟩ := hev.get r _ hex
  refine wpAny_BinOp (wpAny_BinOp (sub_list (nm_loc O b1 (wpAny_Constant_int ?_))))
  refine ⟨ca, cvs, 11, _, _, rfl, rfl, ⟨oc, ec, wc⟩, by decide, by decide, v11, ?_⟩
  refine wpAny_Constant_int (floordiv_int (by decide) (wpAny_Constant_int (mod_to (by decide) hr fun t₁₀ tk₁₀ => ?_)))
  refine ⟨le, evs, (r : Int), _, _, rfl, rfl, let ⟨o, e, q⟩ := O.get 0 rfl; ⟨o, e, q.w⟩, by omega, by omega, hve, ?_⟩
  refine st_loc O.drop fun h₁₁ t₁₁ O => ?_
  change wpAny _ _ _ _ _ { s with heap := h₁₁, toks := t₁₁ }
  have b4 := upd_same m (Str.ofString "end") (.str (tx e) te)
  have b1 := upd_ne (v := .str (tx e) te) (show (Str.ofString "cells") ≠ Str.ofString "end" by decide) b1
  have b2 := upd_ne (v := .str (tx e) te) (show (Str.ofString "goals") ≠ Str.ofString "end" by decide) b2
  have b3 := upd_ne (v := .str (tx e) te) (show (Str.ofString "turns") ≠ Str.ofString "end" by decide) b3
  clear v11 t11 vc lc wc ec oc cvs hve hev hex
  -- leading
  have rowsO : ∀ {h m cs}, Own s.heap s.heap.objs.size m cs h → (∀ p ∈ rowcells as (goalM f) 5, p ∈ cs) → ∀ i, i < 5 → ∃ o, h.get? (as.getD i 0) = some o ∧ isInts 5 (goalM f i) o := fun O e i hi =>
    (O.own _ (e _ (List.mem_map.mpr ⟨i, List.mem_range.mpr (by omega), rfl⟩))).1
  have hM : small (goalM f) := fun i _ j _ => goalM_le f i j
  refine wpAny_execs_cons (wpAny_Assign_Name (name_call (nm_glob G O rfl (cw_fn (wpAny_items_cons ?_)))))
  refine name_call (nm_glob G O rfl (cw_fn (wpAny_items_cons ?_)))
  refine name_call (nm_glob G O rfl (cw_fn (wpAny_items_cons (nm_loc O b2 (wpAny_items_cons (wpAny_BinOp (sub_list (nm_loc O b1 (wpAny_Constant_int ?_)))))))))
  obtain ⟨oc, ec, cvs, wc, lc, vc⟩ := O.get 0 rfl
  obtain ⟨t11, v11⟩ := vc 11 (by decide)
  refine ⟨ca, cvs, 11, _, _, rfl, rfl, ⟨oc, ec, wc⟩, by decide, by decide, v11, ?_⟩
  refine wpAny_Constant_int (mod_to (by decide) hst fun t₁₂ tk₁₂ => wpAny_items_cons (nm_loc O b4 (wpAny_items_cons (nm_loc O b3 (wpAny_items_nil ⟨⟨_, _, (G.keeps O.keep).K 264 _ rfl, rfl⟩, ?_⟩)))))
  refine mail_spec (n := 2) (G.keeps O.keep) ok (O.get 1 rfl) hal (rowsO O fun p hp => .tail _ (.tail _ hp)) hM hst5 hen T1 T2 fun h₁₂ t₁₂ tk₁₂ k₁₂ => ?_
  have O := O.keeps k₁₂
  refine wpAny_items_nil ⟨⟨_, _, (G.keeps O.keep).K 269 _ rfl, rfl⟩, points_spec (n := 1) (G.keeps O.keep) ok hM hst5 T2 fun h₁₃ t₁₃ pa pas hpal F => ?_⟩
  have O := O.join F
  have rowsP : ∀ i, i < 5 → ∃ o, h₁₃.get? (pas.getD i 0) = some o ∧ isInts 5 (pv (goalM f) T i) o := fun i hi =>
    (F.own _ (.tail _ (List.mem_map.mpr ⟨i, List.mem_range.mpr (by omega), rfl⟩))).1
  refine wpAny_items_nil ⟨⟨_, _, (G.keeps O.keep).K 274 _ rfl, rfl⟩, leading_spec (n := 2) (G.keeps O.keep) ok (O.get 0 rfl) hpal rowsP (pv_small f T2) (key_there _) fun h₁₄ t₁₄ la F => ?_⟩
  have O := ((O.join F).sub (cs' := (la, _) :: (ca, isInts 12 f) :: (ga, isW (as.map .ref)) :: rowcells as (goalM f) 5) (.cons_cons _ (List.sublist_append_right _ _)))
  refine st_loc O fun h₁₅ t₁₅ O => ?_
  change wpAny _ _ _ _ _ { s with heap := h₁₅, toks := t₁₅ }
  have b5 := upd_same (upd m (Str.ofString "end") (.str (tx e) te)) (Str.ofString "leading") (.ref la)
  have b2 := upd_ne (v := .ref la) (show (Str.ofString "goals") ≠ Str.ofString "leading" by decide) b2
  have b3 := upd_ne (v := .ref la) (show (Str.ofString "turns") ≠ Str.ofString "leading" by decide) b3
  clear v11 t11 vc lc wc ec oc cvs rowsP
  -- leads
  refine wpAny_execs_cons (comp_assign (iterL ga (as.map .ref)) O (fun k ys cs => k ≤ 5 ∧ ∃ ls : List Addr, ls.length = k ∧ ys = ls.map .ref ∧ cs = gcells (fun i => isInts 6 (leadM (goalM f) i)) ls) ok.hd ?_ ?_ ?_ ?_ ?_)
  · refine nm_loc O b2 (wpAny_pyIter_list (isW.list (O.get 2 rfl)) ?_)
    exact ⟨_, _, _, [], rfl, rfl, ⟨(Fresh.refl _).push _ (P := isLI ga 0) ⟨rfl, rfl⟩, Nat.le_refl _⟩, by decide, [], rfl, rfl, rfl⟩
  · exact fun C k ys m' cs h _ O' => let ⟨o, e, q⟩ := O.get 2 rfl; isW.list ⟨o, O'.keep _ _ e, q⟩
  · rintro k ys cs ⟨hk5, ls, hk, rfl, _⟩
    rw [List.length_map, sizeLine_eq]; omega
  · rintro C it acc k v ys cs h t m' hk hv ⟨_, ls, hls, rfl, rfl⟩ hm O'
    rw [List.length_map, hal] at hk
    have hva : v = .ref (as.getD k 0) := by
      rw [List.getElem?_map, List.getElem?_eq_getElem (by omega)] at hv
      rw [List.getD_eq_getElem?_getD, List.getElem?_eq_getElem (by omega)]
      exact (Option.some.inj hv).symm
    subst hva
    obtain ⟨orow, er, rvs, wr, lr, vr⟩ := rowsO O (fun p hp => .tail _ (.tail _ (.tail _ hp))) k hk
    refine wpAny_tests_nil (ite_pos rfl (wpAny_BinOp ?_))
    refine comp_eval (iterL (as.getD k 0) rvs) (fun j ys cs => j ≤ 5 ∧ cs = [] ∧ IntsAre ys ((List.range j).map (leadM (goalM f) k))) ok.hd ?_ ?_ ?_ ?_ ?_
    · refine nm_loc O' hm (wpAny_pyIter_list (isW.list ⟨orow, O'.keep _ _ er, wr⟩) ?_)
      exact ⟨_, _, _, [], rfl, rfl, ⟨(Fresh.refl _).push _ (P := isLI (as.getD k 0) 0) ⟨rfl, rfl⟩, Nat.le_refl _⟩, by decide, rfl, .nil⟩
    · exact fun C j ys m' cs h _ O'' => isW.list ⟨orow, O''.keep _ _ (O'.keep _ _ er), wr⟩
    · rintro j ys cs ⟨hj, _, hy⟩
      have := hy.length
      rw [List.length_map, List.length_range] at this
      rw [sizeLine_eq]; omega
    · rintro C₂ it₂ acc₂ j v ys₂ cs h₂ t₂ m₂ hj hv ⟨_, rfl, hys⟩ hm₂ O''
      rw [lr] at hj
      obtain ⟨tz, hz⟩ := vr j hj
      obtain rfl : v = .int (goalM f k j) tz := Option.some.inj (hv.symm.trans hz)
      refine wpAny_tests_nil (ite_pos rfl ?_)
      refine wpAny_BinOp (wpAny_BinOp (nm_loc O'' hm₂ (wpAny_BinOp (wpAny_Constant_int (wpAny_Compare1 (nm_loc O'' hm₂ (wpAny_Constant_int (PySem.P.gt_int (PySem.IntBool.mul_int_bool (PyProof.Rows.add_int ?_))))))))))
      refine wpAny_BinOp (wpAny_Constant_int (wpAny_Compare1 (nm_loc O'' hm₂ (wpAny_Constant_int (PySem.P.lt_int (PySem.IntBool.mul_int_bool (PyProof.Rows.sub_int ?_)))))))
      refine ⟨h₂, _, m₂, [], rfl, O'', hj, rfl, ?_⟩
      rw [List.range_succ, List.map_append, List.map_cons, ← lead_eq _ _ _ hj]
      exact hys.append (.cons _ _ .nil)
    · rintro D ys₂ cs h₂ t₂ ⟨_, rfl, hys⟩ F₂
      rw [lr] at hys
      have O' := O'.join F₂
      refine @list_ints prog w A _ _ _ _ C _ _ _ _ [1] _ O' rfl (by decide) fun b h₃ t₃ bvs hb O' => ?_
      have hbl : bvs.length = 1 := hb.length
      have hyl : ys₂.length = 5 := by rw [hys.length]; rfl
      refine o_add O' (O'.get 1 rfl) (O'.get 0 rfl) (by rw [hbl, hyl]; exact Nat.le_of_ble_eq_true rfl) fun a3 h₄ t₄ O' _ => ?_
      have O' := O'.imp (P' := isInts 6 (leadM (goalM f) k)) fun o ho => ints_as (hys.append hb) rfl (lead_at _ _) ho.w
      have O' := O'.sub (cs' := (a3, isInts 6 (leadM (goalM f) k)) :: (acc, isL (ls.map .ref)) :: (it, isLI ga (k + 1)) :: gcells (fun i => isInts 6 (leadM (goalM f) i)) ls) (.cons_cons _ (.cons _ (.cons _ (List.Sublist.refl _))))
      refine ⟨h₄, t₄, m', gcells (fun i => isInts 6 (leadM (goalM f) i)) (ls ++ [a3]), rfl, ?_, hk, ls ++ [a3], by simp [hls], by simp, rfl⟩
      rw [gcells_snoc, hls]
      exact O'.perm (List.perm_append_comm (l₁ := (acc, isL (ls.map .ref)) :: (it, isLI ga (k + 1)) :: gcells (fun i => isInts 6 (leadM (goalM f) i)) ls) (l₂ := [(a3, isInts 6 (leadM (goalM f) k))]))
  rintro D ys cs h t ⟨_, ls, hls, rfl, rfl⟩ O
  rw [List.length_map, hal] at hls
  change wpAny _ _ _ _ _ { s with heap := h, toks := t }
  have b6 := upd_same (upd (upd m (Str.ofString "end") (.str (tx e) te)) (Str.ofString "leading") (.ref la)) (Str.ofString "leads") (.ref D)
  have b3 := upd_ne (v := .ref D) (show (Str.ofString "turns") ≠ Str.ofString "leads" by decide) b3
  have b5 := upd_ne (v := .ref D) (show (Str.ofString "leading") ≠ Str.ofString "leads" by decide) b5
  have O := (O.sub (cs' := ((D, isL (ls.map .ref)) :: gcells (fun i => isInts 6 (leadM (goalM f) i)) ls) ++ [(la, fun o => ∃ vs, isL vs o ∧ IntsAre vs (leadsUpTo (pv (goalM f) T) 5))]) (.cons_cons _ ((List.Sublist.refl _).append (.cons_cons _ (List.nil_sublist _))))).perm
    (List.perm_append_comm (l₁ := [(la, fun o => ∃ vs, isL vs o ∧ IntsAre vs (leadsUpTo (pv (goalM f) T) 5))]) (l₂ := (D, isL (ls.map .ref)) :: gcells (fun i => isInts 6 (leadM (goalM f) i)) ls))
  -- told
  refine wpAny_execs_cons (wpAny_Assign_Name (List_ (wpAny_items_nil (o_newList O (by decide) fun ta h₁₇ t₁₇ O _ => st_loc O fun h₁₈ t₁₈ O => ?_))))
  change wpAny _ _ _ _ _ { s with heap := h₁₈, toks := t₁₈ }
  have b7 := upd_same (upd (upd (upd m (Str.ofString "end") (.str (tx e) te)) (Str.ofString "leading") (.ref la)) (Str.ofString "leads") (.ref D)) (Str.ofString "told") (.ref ta)
  have b3 := upd_ne (v := .ref ta) (show (Str.ofString "turns") ≠ Str.ofString "told" by decide) b3
  have b5 := upd_ne (v := .ref ta) (show (Str.ofString "leading") ≠ Str.ofString "told" by decide) b5
  have b6 := upd_ne (v := .ref ta) (show (Str.ofString "leads") ≠ Str.ofString "told" by decide) b6
  refine wpAny_execs_cons (wpAny_For (name_call (nm_blt G O rfl boot_range' (cw_type (wpAny_items_cons (wpAny_Constant_int (wpAny_items_cons (wpAny_Constant_int (wpAny_items_nil ?_)))))))))
  refine range_2 (a := 1) (n := 5) O (by decide) (by decide) (by decide) rfl fun it h₁₉ t₁₉ O => ?_
  refine for_core (s := s) (iterR 1 5) (h₀ := s.heap) (L := s.heap.objs.size) (fun k m cs => ∃ tvs, m "told" = some (.ref ta) ∧ m "leads" = some (.ref D) ∧ m "leading" = some (.ref la) ∧ m "turns" = some (.int (T : Int) tkT) ∧ IntsAre tvs (toldUpTo (leadM (goalM f)) (4 + (T : Int)) k) ∧
    cs = (ta, isL tvs) :: ((la, fun o => ∃ vs, isL vs o ∧ IntsAre vs (leadsUpTo (pv (goalM f) T) 5)) :: (D, isL (ls.map .ref)) :: gcells (fun i => isInts 6 (leadM (goalM f) i)) ls)) ok.hd (fun _ _ _ _ _ _ => trivial) ?_ ?_ O ⟨[], b7, b6, b5, b3, .nil, rfl⟩
  · clear O b3 b5 b6 b7
    rintro k v m cs h t hk ⟨tv, rfl⟩ ⟨tvs, b7, b6, b5, b3, htv, rfl⟩ O
    have e1 : (1 : Int) + (k : Int) = ((k + 1 : Nat) : Int) := by omega
    rw [e1] at O
    have b3 := upd_ne (m := m) (v := .int ((k + 1 : Nat) : Int) tv) (show (Str.ofString "turns") ≠ Str.ofString "count" by decide) b3
    have b5 := upd_ne (m := m) (v := .int ((k + 1 : Nat) : Int) tv) (show (Str.ofString "leading") ≠ Str.ofString "count" by decide) b5
    have b6 := upd_ne (m := m) (v := .int ((k + 1 : Nat) : Int) tv) (show (Str.ofString "leads") ≠ Str.ofString "count" by decide) b6
    have b7 := upd_ne (m := m) (v := .int ((k + 1 : Nat) : Int) tv) (show (Str.ofString "told") ≠ Str.ofString "count" by decide) b7
    have b8 := upd_same m (Str.ofString "count") (.int ((k + 1 : Nat) : Int) tv)
    refine wpAny_execs_cons (wpAny_Assign_Name (name_call (nm_glob G O rfl (cw_fn (wpAny_items_cons (nm_loc O b6 (wpAny_items_cons (wpAny_BinOp ?_))))))))
    refine o_slice (h₀ := s.heap) (L := s.heap.objs.size) ?_
    refine @list_ints prog w A _ _ _ s.heap s.heap.objs.size _ _ _ _ [0, 1, 2, 3, 4] _ O rfl (by decide) fun i1 h₂₀ t₂₀ ivs hiv O => ?_
    refine wpAny_evalPart_none (wpAny_evalPart_some (nm_loc O b8 ?_))
    have hil : ivs.length = 5 := hiv.length
    refine ⟨i1, ivs, none, some ((k + 1 : Nat) : Int), _, _, rfl, isL.list (O.get 0 rfl), by rw [hil]; exact Nat.le_of_ble_eq_true rfl, .none, .int _ _, O, fun i2 h₂₁ t₂₁ _ O _ => ?_⟩
    rw [slicePick_upto'] at O
    refine wpAny_BinOp ?_
    refine @list_ints prog w A _ _ _ s.heap s.heap.objs.size _ _ _ _ [5] _ O rfl (by decide) fun i3 h₂₂ t₂₂ fvs hfv O => ?_
    refine wpAny_BinOp (nm_loc O b8 (wpAny_Constant_int (mod_to (by decide) (odd_at k hk) fun t₂₃ tk₂₃ => ?_)))
    have hfl : fvs.length = 1 := hfv.length
    have hfe : fvs.toArray.isEmpty = false := by
      cases fvs with
      | nil => cases hfl
      | cons a b => rfl
    refine o_mul' O (O.get 0 rfl) (by omega) (by omega) hfe (by omega) fun i4 h₂₄ t₂₄ O _ => ?_
    have hns : IntsAre (ivs.take (k + 1) ++ (List.replicate ((((k + 1) % 2 : Nat) : Int)).toNat fvs).flatten) (nInts (places (k + 1))) := by
      rw [places_eq k hk]
      exact (hiv.take _).append (ints_rep hfv _)
    have hnl := hns.length
    rw [List.length_append] at hnl
    have hpl := places_ok k hk
    have hpl2 : (nInts (places (k + 1))).length ≤ 6 := by unfold nInts; rw [List.length_map]; exact hpl.2
    refine o_add O (O.get 2 rfl) (O.get 0 rfl) (by show (ivs.take (k + 1)).length + _ ≤ _; rw [hnl, sizeLine_eq]; omega) fun i5 h₂₅ t₂₅ O _ => ?_
    have O := (O.imp (P' := isNs (places (k + 1))) fun o ho => ⟨_, ho, hns⟩).sub (cs' := (i5, isNs (places (k + 1))) :: (it, isRI 1 5 (k + 1)) :: (ta, isL tvs) :: ((la, fun o => ∃ vs, isL vs o ∧ IntsAre vs (leadsUpTo (pv (goalM f) T) 5)) :: (D, isL (ls.map .ref)) :: gcells (fun i => isInts 6 (leadM (goalM f) i)) ls)) (.cons_cons _ (.cons _ (.cons _ (.cons _ (.cons _ (List.Sublist.refl _))))))
    refine wpAny_items_nil ⟨⟨_, _, (G.keeps O.keep).K 281 _ rfl, rfl⟩, ?_⟩
    refine paired_spec (fun i _ j _ => leadM_le f i j) hls 3 (G.keeps O.keep) ok (let ⟨o, e, q⟩ := O.get 4 rfl; ⟨o, e, q.w⟩) (fun i hi => (O.own _ (.tail _ (.tail _ (.tail _ (.tail _ (.tail _ (gcells_get (F := fun i => isInts 6 (leadM (goalM f) i)) (by omega)))))))).1) (O.get 0 rfl) hpl.1 (by omega) fun h₂₆ t₂₆ tk₂₆ k₂₆ => ?_
    have O := (O.keeps k₂₆).drop
    have hPb := paired_le f 3 (places (k + 1)) hpl.2
    generalize hP : paired (leadM (goalM f)) 3 (places (k + 1)) = P at hPb ⊢
    refine st_int (z' := P) O rfl fun h₂₇ t₂₇ tk₂₇ O => ?_
    change wpAny _ _ _ _ _ { s with heap := h₂₇, toks := t₂₇ }
    have b9 := upd_same (upd m (Str.ofString "count") (.int ((k + 1 : Nat) : Int) tv)) (Str.ofString "paired") (.int P tk₂₇)
    have b3 := upd_ne (v := .int P tk₂₇) (show (Str.ofString "turns") ≠ Str.ofString "paired" by decide) b3
    have b5 := upd_ne (v := .int P tk₂₇) (show (Str.ofString "leading") ≠ Str.ofString "paired" by decide) b5
    have b6 := upd_ne (v := .int P tk₂₇) (show (Str.ofString "leads") ≠ Str.ofString "paired" by decide) b6
    have b7 := upd_ne (v := .int P tk₂₇) (show (Str.ofString "told") ≠ Str.ofString "paired" by decide) b7
    have b8 := upd_ne (v := .int P tk₂₇) (show (Str.ofString "count") ≠ Str.ofString "paired" by decide) b8
    have hP2 : (P ^ (2 : Int).toNat).natAbs < 2 ^ 64 := by
      rw [Int.natAbs_pow]
      exact Nat.lt_of_le_of_lt (Nat.pow_le_pow_left hPb _) (by decide)
    refine wpAny_execs_cons (wpAny_Expr (meth_call (nm_loc O b7 (gm_append (O.get 1 rfl) (cw_blt (wpAny_items_cons (wpAny_BinOp (wpAny_BinOp (nm_loc O b9 (wpAny_Constant_int (pow_int_small (by decide) (by decide) (Nat.lt_of_le_of_lt hPb (by decide)) ?_)))))))))))
    refine wpAny_mono (Q := fun v s₁ => ∃ tk t₁, v = .int (if (k + 1) % 2 = 1 then 4 + (T : Int) else 1) tk ∧ s₁ = { s with heap := h₂₇, toks := t₁ }) (E := fun _ _ => False) ?_ (fun v s₁ h₁ => ?_) fun _ _ x => x.elim
    · refine wpAny_IfExp (wpAny_isTrue_value (wpAny_BinOp (nm_loc O b8 (wpAny_Constant_int (mod_to (by decide) (odd_at k hk) fun t₂₈ tk₂₈ => PySem.P.truthy_int ?_)))))
      by_cases hodd : (k + 1) % 2 = 1
      · exact ite_pos (by rw [hodd]; decide) (wpAny_BinOp (wpAny_Constant_int (nm_loc O b3 (add_to rfl fun t tk => ⟨_, _, congrArg (fun z => Value.int z _) (if_pos hodd).symm, rfl⟩))))
      · exact ite_neg (by rw [show (k + 1) % 2 = 0 by omega]; decide) (wpAny_Constant_int ⟨_, _, congrArg (fun z => Value.int z _) (if_neg hodd).symm, rfl⟩)
    obtain ⟨tk₂₉, t₂₉, rfl, rfl⟩ := h₁
    refine PyProof.Rows.mul_int (wpAny_items_nil ?_) (IntMulOk.of_left (intBits_le hP2))
    have htl : tvs.length ≤ 5 := by rw [htv.length]; unfold toldUpTo; rw [List.length_map, List.length_range]; omega
    refine o_append O.swap (by rw [sizeLine_eq]; omega) fun h₃₀ t₃₀ O => ?_
    refine wpAny_execs_nil ⟨.inl rfl, h₃₀, t₃₀, _, _, rfl, O.swap, _, b7, b6, b5, b3, ?_, rfl⟩
    rw [toldUpTo_succ, hP]
    exact htv.append (.cons _ _ .nil)
  · rintro m cs h t ⟨tvs, b7, b6, b5, b3, htv, rfl⟩ O
    obtain ⟨ol, el, lvs, wl, il⟩ := O.get 1 rfl
    rw [law_plain f T] at il
    obtain ⟨n1, hl1⟩ := isL.at_ ⟨ol, el, wl⟩
    obtain ⟨n2, hl2⟩ := isL.at_ (O.get 0 rfl)
    refine wpAny_execs_cons (wpAny_Return_some (wpAny_Compare1 (nm_loc O b5 (nm_loc O b7 ?_))))
    refine PySem.P.eq_list (e := fun _ => true) hl1 hl2 (by rw [List.size_toArray, List.size_toArray, il.length, htv.length]) (fun j p q => ints_eq il htv j p q) ok.unit ?_
    have e : (List.range lvs.toArray.size).all (fun _ => true) = true := by simp
    rw [e]
    exact fin _ _ _ O.fr
end
end Mine
end

section
set_option maxRecDepth 100000
set_option Elab.async false
set_option maxHeartbeats 1000000
set_option linter.unusedVariables false
open PySem PySem.Sre PySem.Calls PySem.W PyProof.Rows
namespace Mine
theorem law_ends {prog : Program} {w : World} {A : Around} {s : Shared} {fa l : Addr} {cd : Value} {o : Obj} {fd : FuncData} {body : List Stmt} {vs : List Value} {ns : List Int} {h₁ : Heap} {t₁ : Nat}
    (hf : (Mine.hd.heap_39 w.params).lookup 286 = some o) (hdata : o.data = .func fd) (hbody : fd.body = .stmts body) (G : Gl w s.heap) (ok : Ok A 4)
    (F : Fr s.heap s.heap.objs.size h₁ (fun x => [((Str.ofString "script"), Value.ref l)].reverse.lookup x)) (hl : s.heap.IsList l vs.toArray) (hi : IntsAre vs ns) (hlen : ns.length ≤ 63) :
    wpAny (model prog w) A (execs body (envOf "law" fd.scope s.heap.objs.size fa cd)) (fun fl s' => ∃ h' t' m', fl = .ret (.bool true) ∧ s' = { s with heap := h', toks := t' } ∧ Fr s.heap s.heap.objs.size h' m') (fun _ _ => False) { s with heap := h₁, toks := t₁ } :=
  law_spec hf hdata hbody G ok (.start F) hl hi hlen fun h' t' m' F' => ⟨h', t', m', rfl, rfl, F'⟩
end Mine
end

set_option maxRecDepth 100000
set_option Elab.async false
set_option maxHeartbeats 1000000
open PySem PySem.W PyProof.Rows
theorem PySem.Challenge.cw_tp0023_01_holds : PySem.Challenge.rw_tp0023_01.Holds := by
  refine Mine.hd ?_
  k_go0
  have KX := ‹(Mine.hd.heap_39 _).In _›
  have T := ‹Top _ _ _ _ _ _›
  have F := ‹Fr _ _ _ _›
  have hL := ‹Heap.IsList _ _ _›
  have hI := ‹IntsAre _ _›
  have hg := ‹Shared.gens _ = #[]›
  have hc := ‹¬ ((63 : Nat) : Int) < _›
  refine wpAny_mono (E := fun _ _ => False) (Mine.law_ends rfl rfl rfl ⟨KX, T.nolimit, ⟨_, T.g⟩, ⟨_, T.b, T.builtins⟩⟩ ⟨rfl, Nat.le_of_ble_eq_true rfl, Nat.le_of_ble_eq_true rfl⟩ F hL hI (by omega)) (fun f s' h => ?_) fun _ _ x => x.elim
  obtain ⟨h', t', m', rfl, rfl, F'⟩ := h
  exact goodW_bool F' hg (raisesW_false (by wrow_none_raised)) (postW_of rfl rfl (by decide +kernel))
