import PyProof.Rows.All
import Wide.All
import OpenK.AllK
import Wide.FinOn
import KE.BytesMulAny
import PyProof.ListIndexNeg
import KE.IntBitsLaws
import Lean
import PySem.Challenge.RW_xe0036_01
set_option Elab.async false
set_option linter.all false
section
theorem Mine.startHdTop : True := by
  w_top off
  trivial
open PySem PySem.W PyProof.Rows
set_option maxRecDepth 100000
set_option maxHeartbeats 8000000
namespace Mine
open_top hd for PySem.Challenge.rw_xe0036_01
end Mine
end
section
theorem Mine.startSre1 : True := by
  w_top off
  trivial
open PySem PySem.Sre
namespace Mine

noncomputable def hcode : Array Nat := #[14, 8, 1, 2, 4294967295, 1, 1, 46, 0, 16, 46, 24, 9, 1, 4294967295, 13, 4, 8, 0, 0, 1, 6, 5, 1]

noncomputable def hst (text : Array Nat) (lim s : Nat) (first : Bool) (seen : Seen) : M :=
  { code := hcode, text, lim, start := s, lastStart := lim, pc := 9, pos := s, handed := s, outermost := first, marks := #[],
    frames := [{ wait := .nextStart, pc := 9, pos := s, outermost := first }], weight := 1, seen }

noncomputable def iter {α : Type} (f : α → α) : Nat → α → α
  | 0, x => x
  | n + 1, x => iter f n (f x)

theorem runFor_eq (n : Nat) (m : M) : M.runFor n m = iter M.step n m := by
  induction n generalizing m with
  | zero => rfl
  | succ n ih =>
    show (if m.outcome.isSome then m else M.runFor n m.step) = iter M.step n m.step
    by_cases h : m.outcome.isSome = true
    · have hs : m.step = m := if_pos h
      rw [if_pos h, hs]
      clear ih
      induction n with
      | zero => rfl
      | succ n ih => show m = iter M.step n m.step; rw [hs]; exact ih
    · rw [if_neg h]
      exact ih _

theorem iter_add {α : Type} (f : α → α) (a b : Nat) (x : α) : iter f (a + b) x = iter f b (iter f a x) := by
  induction a generalizing x with
  | zero => rw [Nat.zero_add]; rfl
  | succ a ih => rw [show a + 1 + b = (a + b) + 1 from Nat.add_right_comm a 1 b]; exact ih _

/-- within n steps the machine stands failed -/
noncomputable def FailsIn (n : Nat) (m : M) : Prop := (iter M.step n m).outcome = some .failed

theorem FailsIn.of_step {k n : Nat} {m m' : M} (h : FailsIn n m') (e : iter M.step k m = m') : FailsIn (k + n) m := by
  unfold FailsIn
  rw [iter_add, e]
  exact h

section
variable {text : Array Nat} {lim s : Nat} {first : Bool} {seen : Seen}
theorem turn_hst {p q r : Nat} {o : Bool} : ({ hst text lim s first seen with answer := some false, pc := p, pos := q, handed := r, outermost := o } : M).step =
    if s < lim then hst text lim (s + 1) false seen else { hst text lim s first seen with handed := r, frames := [], weight := 0, answer := some false } := by kernel_rfl
theorem back_hst {m : M} (hs : s < lim)
    (h : m.step = { hst text lim s first seen with answer := some false, pc := m.step.pc, pos := m.step.pos, handed := m.step.handed, outermost := m.step.outermost }) :
    m.step.step = hst text lim (s + 1) false seen := by
  rw [h]
  exact turn_hst.trans (if_pos hs)
theorem go_hst : (hst text lim s first seen).step =
    if s ≥ lim then { hst text lim s first (seen.add 16) with answer := some false }
    else cond (text.getD s 0 == 46) { hst text lim s first (seen.add 16) with pc := 11, pos := s + 1 } { hst text lim s first (seen.add 16) with answer := some false } := by kernel_rfl
theorem step_hst_no (hs : s < lim) (h : text.getD s 0 ≠ 46) :
    ∃ seen', ((hst text lim s first seen).step).step = hst text lim (s + 1) false seen' := by
  refine ⟨seen.add 16, back_hst (first := first) hs ?_⟩
  rw [go_hst, if_neg (Nat.not_le.mpr hs), beq_false_of_ne h]
  rfl
theorem step_hst_dot (hs : s < lim) (h : text.getD s 0 = 46) :
    (hst text lim s first seen).step = { hst text lim s first (seen.add 16) with pc := 11, pos := s + 1 } := by
  rw [go_hst, if_neg (Nat.not_le.mpr hs), h]
  rfl
theorem acc_hst {c : Nat} : accepts hcode 15 c seen = if (isDigit c != false) = true then .ok (true, (seen.add 8).add 55) else .ok (false, ((seen.add 8).add 55).add 0) := by kernel_rfl
theorem run_no {p : Nat} (h : isDigit (text.getD p 0) = false) : ∀ n, ∃ seen', Sre.run hcode text 15 n p 0 seen = .ok (0, seen')
  | 0 => ⟨_, rfl⟩
  | n + 1 => by
    refine ⟨(((seen.add 8).add 55).add 0), ?_⟩
    have e : accepts hcode 15 (text.getD p 0) seen = .ok (false, ((seen.add 8).add 55).add 0) := by rw [acc_hst, h]; rfl
    show (accepts hcode 15 (text.getD p 0) seen >>= fun _ => _) = _
    rw [e]
    rfl
noncomputable def repK (m : M) : Except String (Nat × Seen) → M
  | .error why => m.stick why
  | .ok (n, sn) => if n < 1 then { m with seen := sn }.say false else { m with seen := sn, pos := m.pos + n }.afterRun .giveBack n ({ m with seen := sn, pos := m.pos + n }.keep m.inner.isSome)
theorem go_rep : ({ hst text lim s first seen with pc := 11, pos := s + 1 } : M).step =
    if ((1 : Nat) : Int) > (lim : Int) - ((s + 1 : Nat) : Int) then { hst text lim s first (seen.add 24) with pc := 11, pos := s + 1, answer := some false }
    else repK { hst text lim s first (seen.add 24) with pc := 11, pos := s + 1 } (Sre.run hcode text 15 (min 4294967295 ((lim : Int) - ((s + 1 : Nat) : Int)).toNat) (s + 1) 0 ((seen.add 24).add 13)) := by kernel_rfl
theorem step_rep_no (hs : s < lim) (h : isDigit (text.getD (s + 1) 0) = false) :
    ∃ seen', (({ hst text lim s first seen with pc := 11, pos := s + 1 } : M).step).step = hst text lim (s + 1) false seen' := by
  by_cases h1 : ((1 : Nat) : Int) > (lim : Int) - ((s + 1 : Nat) : Int)
  · refine ⟨seen.add 24, back_hst (first := first) hs ?_⟩
    rw [go_rep, if_pos h1]
  · obtain ⟨seen', hrun⟩ := run_no (text := text) (p := s + 1) (seen := (seen.add 24).add 13) h (min 4294967295 (((lim : Int) - ((s + 1 : Nat) : Int)).toNat))
    refine ⟨seen', back_hst (first := first) hs ?_⟩
    rw [go_rep, if_neg h1, hrun]
    rfl
theorem end_hst : FailsIn 3 (hst text lim lim first seen) := by
  have h1 : (hst text lim lim first seen).step = { hst text lim lim first (seen.add 16) with answer := some false } := by
    rw [go_hst, if_pos (Nat.le_refl _)]
  show (hst text lim lim first seen).step.step.step.outcome = _
  rw [h1, turn_hst, if_neg (Nat.lt_irrefl _)]
  kernel_rfl
end

noncomputable def NoDD (text : Array Nat) : Prop := ∀ i, text.getD i 0 = 46 → isDigit (text.getD (i + 1) 0) = false

theorem fails_hst {text : Array Nat} {lim : Nat} (hd : NoDD text) : ∀ (k s : Nat) (first : Bool) (seen : Seen), s + k = lim → ∃ n, n ≤ 3 * k + 3 ∧ FailsIn n (hst text lim s first seen)
  | 0, s, first, seen, e => by
    have e' : s = lim := by lia
    subst e'
    exact ⟨3, by lia, end_hst⟩
  | k + 1, s, first, seen, e => by
    by_cases h : text.getD s 0 = 46
    · have hlt : s < lim := by lia
      obtain ⟨seen', e3⟩ := step_rep_no (first := first) (seen := seen.add 16) (text := text) (lim := lim) (s := s) hlt (hd s h)
      obtain ⟨n, hn, hf⟩ := fails_hst (lim := lim) hd k (s + 1) false seen' (by lia)
      refine ⟨3 + n, by lia, hf.of_step ?_⟩
      show (hst text lim s first seen).step.step.step = _
      rw [step_hst_dot hlt h, e3]
    · have hlt : s < lim := by lia
      obtain ⟨seen', e2⟩ := step_hst_no (first := first) (seen := seen) (text := text) (lim := lim) (s := s) hlt h
      obtain ⟨n, hn, hf⟩ := fails_hst (lim := lim) hd k (s + 1) false seen' (by lia)
      exact ⟨2 + n, by lia, hf.of_step e2⟩

theorem search_hst {text : Array Nat} : forSearch hcode text 0 0 text.size false =
    if (decide (0 > text.size) || decide (text.size - 0 < 2)) = true then { code := hcode, text := text, lim := text.size, start := 0, pc := 9, pos := 0, handed := 0, marks := #[], seen := ({} : Seen).add 14, answer := some false }
    else hst text text.size 0 true (({} : Seen).add 14) := by kernel_rfl
theorem search_fails {text : Array Nat} (hd : NoDD text) : ∃ n, n ≤ 3 * text.size + 6 ∧ FailsIn n (forSearch hcode text 0 0 text.size false) := by
  rw [search_hst]
  by_cases h : (decide (0 > text.size) || decide (text.size - 0 < 2)) = true
  · rw [if_pos h]
    exact ⟨1, by lia, rfl⟩
  · rw [if_neg h]
    obtain ⟨n, hn, hf⟩ := fails_hst (lim := text.size) hd text.size 0 true (({} : Seen).add 14) (by lia)
    exact ⟨n, by lia, hf⟩
end Mine
end
section
theorem Mine.startSre2 : True := by
  w_top off
  trivial
open PySem PySem.Sre
namespace Mine

noncomputable def tcode : Array Nat := #[14, 4, 0, 1, 1, 6, 1, 16, 46, 1]

noncomputable def tst (text : Array Nat) (lim s : Nat) (first : Bool) (seen : Seen) : M :=
  { code := tcode, text, lim, start := s, lastStart := lim, pc := 5, pos := s, handed := s, outermost := first, marks := #[],
    frames := [{ wait := .nextStart, pc := 5, pos := s, outermost := first }], weight := 1, seen }

/-- a match of the pattern stands at s -/
noncomputable def Hit (text : Array Nat) (s : Nat) : Prop := (s = 0 ∨ text.getD (s - 1) 0 = 10) ∧ text.getD s 0 = 46

noncomputable def MatchIn (n : Nat) (m : M) (j : Nat) : Prop := (iter M.step n m).outcome = some .matched ∧ (iter M.step n m).start = j ∧ (iter M.step n m).handed = j + 1

theorem MatchIn.of_step {k n j : Nat} {m m' : M} (h : MatchIn n m' j) (e : iter M.step k m = m') : MatchIn (k + n) m j := by
  unfold MatchIn
  rw [iter_add, e]
  exact h

section
variable {text : Array Nat} {lim s : Nat} {first : Bool} {seen : Seen}
theorem turn_tst {p q r : Nat} {o : Bool} : ({ tst text lim s first seen with answer := some false, pc := p, pos := q, handed := r, outermost := o } : M).step =
    if s < lim then tst text lim (s + 1) false seen else { tst text lim s first seen with handed := r, frames := [], weight := 0, answer := some false } := by kernel_rfl
theorem back_tst {m : M} (hs : s < lim)
    (h : m.step = { tst text lim s first seen with answer := some false, pc := m.step.pc, pos := m.step.pos, handed := m.step.handed, outermost := m.step.outermost }) :
    m.step.step = tst text lim (s + 1) false seen := by
  rw [h]
  exact turn_tst.trans (if_pos hs)
theorem end_tst {m : M}
    (h : m.step = { tst text lim lim first seen with answer := some false, pc := m.step.pc, pos := m.step.pos, handed := m.step.handed, outermost := m.step.outermost }) :
    m.step.step.step.outcome = some .failed := by
  rw [h, turn_tst, if_neg (Nat.lt_irrefl _)]
  kernel_rfl
theorem go_at : (tst text lim s first seen).step =
    if (s == 0 || text.getD (s - 1) 0 == 10) = true then { tst text lim s first ((seen.add 6).add 44) with pc := 7 } else { tst text lim s first ((seen.add 6).add 44) with answer := some false } := by kernel_rfl
theorem at_no (h : ¬ (s = 0 ∨ text.getD (s - 1) 0 = 10)) :
    (tst text lim s first seen).step = { tst text lim s first ((seen.add 6).add 44) with answer := some false } := by
  rw [go_at]
  exact if_neg fun e => h (by simpa only [Bool.or_eq_true, beq_iff_eq] using e)
theorem at_yes (h : s = 0 ∨ text.getD (s - 1) 0 = 10) :
    (tst text lim s first seen).step = { tst text lim s first ((seen.add 6).add 44) with pc := 7 } := by
  rw [go_at]
  exact if_pos (by simpa only [Bool.or_eq_true, beq_iff_eq] using h)
theorem go_lit : ({ tst text lim s first seen with pc := 7 } : M).step =
    if s ≥ lim then { tst text lim s first (seen.add 16) with pc := 7, answer := some false }
    else cond (text.getD s 0 == 46) { tst text lim s first (seen.add 16) with pc := 9, pos := s + 1 } { tst text lim s first (seen.add 16) with pc := 7, answer := some false } := by kernel_rfl
theorem lit_no (h : ¬ (s < lim ∧ text.getD s 0 = 46)) :
    ∃ seen', (({ tst text lim s first seen with pc := 7 } : M)).step = { tst text lim s first seen' with pc := 7, answer := some false } := by
  refine ⟨seen.add 16, ?_⟩
  rw [go_lit]
  by_cases hs : s < lim
  · rw [if_neg (Nat.not_le.mpr hs), beq_false_of_ne fun e => h ⟨hs, e⟩]
    rfl
  · exact if_pos (Nat.not_lt.mp hs)
theorem lit_yes (hs : s < lim) (h : text.getD s 0 = 46) :
    (({ tst text lim s first seen with pc := 7 } : M)).step = { tst text lim s first (seen.add 16) with pc := 9, pos := s + 1 } := by
  rw [go_lit, if_neg (Nat.not_le.mpr hs), h]
  rfl
theorem go_ok : ({ tst text lim s first seen with pc := 9, pos := s + 1 } : M).step = if (first && false) = true then { tst text lim s first (seen.add 1) with pc := 9, pos := s + 1, answer := some false } else { tst text lim s first (seen.add 1) with pc := 9, pos := s + 1, handed := s + 1, answer := some true } := by kernel_rfl
theorem go_end : ({ tst text lim s first seen with pc := 9, pos := s + 1, handed := s + 1, answer := some true } : M).step.step = { tst text lim s first seen with pc := 5, pos := s, handed := s + 1, answer := some true, frames := [], weight := 0, outcome := some .matched } := by kernel_rfl
theorem success : MatchIn 3 ({ tst text lim s first seen with pc := 9, pos := s + 1 } : M) s := by
  unfold MatchIn
  show (M.step (M.step (M.step _))).outcome = _ ∧ (M.step (M.step (M.step _))).start = _ ∧ (M.step (M.step (M.step _))).handed = _
  rw [go_ok, if_neg (by rw [Bool.and_false]; exact Bool.false_ne_true), go_end]
  exact ⟨rfl, rfl, rfl⟩
end

theorem tst_hit {text : Array Nat} {lim s : Nat} {first : Bool} {seen : Seen} (hs : s < lim) (h : Hit text s) : MatchIn 5 (tst text lim s first seen) s := by
  refine (success (text := text) (lim := lim) (s := s) (first := first) (seen := ((seen.add 6).add 44).add 16)).of_step (k := 2) ?_
  show (tst text lim s first seen).step.step = _
  rw [at_yes h.1, lit_yes hs h.2]

theorem tst_next {text : Array Nat} {lim s : Nat} {first : Bool} {seen : Seen} (hs : s < lim) (h : ¬ Hit text s) : ∃ k seen', k ≤ 3 ∧ iter M.step k (tst text lim s first seen) = tst text lim (s + 1) false seen' := by
  by_cases h1 : s = 0 ∨ text.getD (s - 1) 0 = 10
  · obtain ⟨seen', e⟩ := lit_no (text := text) (lim := lim) (s := s) (first := first) (seen := (seen.add 6).add 44) (fun q => h ⟨h1, q.2⟩)
    refine ⟨3, seen', by lia, ?_⟩
    show (tst text lim s first seen).step.step.step = _
    rw [at_yes h1]
    refine back_tst (first := first) hs ?_
    rw [e]
  · refine ⟨2, (seen.add 6).add 44, by lia, ?_⟩
    show (tst text lim s first seen).step.step = _
    refine back_tst (first := first) hs ?_
    rw [at_no h1]

theorem tst_end {text : Array Nat} {lim : Nat} {first : Bool} {seen : Seen} : ∃ k, k ≤ 4 ∧ FailsIn k (tst text lim lim first seen) := by
  by_cases h1 : lim = 0 ∨ text.getD (lim - 1) 0 = 10
  · obtain ⟨seen', e⟩ := lit_no (text := text) (lim := lim) (s := lim) (first := first) (seen := (seen.add 6).add 44) (fun q => absurd q.1 (Nat.lt_irrefl _))
    refine ⟨4, by lia, ?_⟩
    unfold FailsIn
    show (tst text lim lim first seen).step.step.step.step.outcome = _
    rw [at_yes h1]
    refine end_tst (text := text) (lim := lim) (first := first) (seen := seen') ?_
    rw [e]
  · refine ⟨3, by lia, ?_⟩
    unfold FailsIn
    show (tst text lim lim first seen).step.step.step.outcome = _
    refine end_tst (text := text) (lim := lim) (first := first) (seen := (seen.add 6).add 44) ?_
    rw [at_no h1]

theorem tst_runs {text : Array Nat} {lim : Nat} : ∀ (k s : Nat) (first : Bool) (seen : Seen), s + k = lim →
    (∃ n, n ≤ 3 * k + 5 ∧ FailsIn n (tst text lim s first seen) ∧ ∀ j, s ≤ j → j < lim → ¬ Hit text j) ∨
    (∃ n j, n ≤ 3 * k + 5 ∧ MatchIn n (tst text lim s first seen) j ∧ s ≤ j ∧ j < lim ∧ Hit text j ∧ ∀ i, s ≤ i → i < j → ¬ Hit text i)
  | 0, s, first, seen, e => by
    have e' : s = lim := by lia
    subst e'
    obtain ⟨k, hk, hf⟩ := tst_end (text := text) (lim := s) (first := first) (seen := seen)
    exact .inl ⟨k, by lia, hf, fun j h1 h2 => absurd h2 (by lia)⟩
  | k + 1, s, first, seen, e => by
    have hs : s < lim := by lia
    by_cases h : Hit text s
    · exact .inr ⟨5, s, by lia, tst_hit hs h, Nat.le_refl _, hs, h, fun i h1 h2 => absurd h2 (by lia)⟩
    · obtain ⟨k', seen', hk', e'⟩ := tst_next (text := text) (lim := lim) (s := s) (first := first) (seen := seen) hs h
      rcases tst_runs (lim := lim) k (s + 1) false seen' (by lia) with ⟨n, hn, hf, hno⟩ | ⟨n, j, hn, hm, h1, h2, h3, h4⟩
      · refine .inl ⟨k' + n, by lia, hf.of_step e', fun j hj1 hj2 => ?_⟩
        by_cases hj : j = s
        · exact hj ▸ h
        · exact hno j (by lia) hj2
      · refine .inr ⟨k' + n, j, by lia, hm.of_step e', by lia, h2, h3, fun i hi1 hi2 => ?_⟩
        by_cases hi : i = s
        · exact hi ▸ h
        · exact h4 i (by lia) hi2

theorem sub_go {text : Array Nat} {s : Nat} : forSearch tcode text 0 s text.size false =
    if (decide (s > text.size) || decide (text.size - s < 1)) = true then { code := tcode, text := text, lim := text.size, start := s, pc := 5, pos := s, handed := s, marks := #[], seen := ({} : Seen).add 14, answer := some false }
    else tst text text.size s true (({} : Seen).add 14) := by kernel_rfl
theorem sub_runs {text : Array Nat} {s : Nat} (hs : s ≤ text.size) :
    (∃ n, n ≤ 3 * text.size + 6 ∧ FailsIn n (forSearch tcode text 0 s text.size false) ∧ ∀ j, s ≤ j → j < text.size → ¬ Hit text j) ∨
    (∃ n j, n ≤ 3 * text.size + 6 ∧ MatchIn n (forSearch tcode text 0 s text.size false) j ∧ s ≤ j ∧ j < text.size ∧ Hit text j ∧ ∀ i, s ≤ i → i < j → ¬ Hit text i) := by
  rw [sub_go]
  by_cases h : (decide (s > text.size) || decide (text.size - s < 1)) = true
  · rw [if_pos h]
    simp only [Bool.or_eq_true, decide_eq_true_eq] at h
    exact .inl ⟨1, by lia, rfl, fun j h1 h2 => absurd h2 (by lia)⟩
  · rw [if_neg h]
    rcases tst_runs (text := text) (lim := text.size) (text.size - s) s true (({} : Seen).add 14) (by lia) with ⟨n, hn, r⟩ | ⟨n, j, hn, r⟩
    · exact .inl ⟨n, by lia, r⟩
    · exact .inr ⟨n, j, by lia, r⟩
end Mine
end
section
theorem Mine.startSre3 : True := by
  w_top off
  trivial
open PySem PySem.Sre PySem.Builtin.Re
namespace Mine

theorem iter_done {m : M} {n k : Nat} {o : Sre.Outcome} (h : (iter M.step n m).outcome = some o) : iter M.step (n + k) m = iter M.step n m := by
  rw [iter_add]
  generalize iter M.step n m = x at h ⊢
  induction k with
  | zero => rfl
  | succ k ih =>
    show iter M.step k x.step = x
    have : x.step = x := by unfold M.step; rw [h]; rfl
    rw [this, ih]

section
variable {Mo : Model} {A : Around} {E : Value → Shared → Prop} {s : Shared}

theorem wp_reDrive {Q : M → Shared → Prop} {o : Sre.Outcome} {x : M} : ∀ (t n : Nat) (m : M), iter M.step n m = x → x.outcome = some o → n ≤ 4 * t → 0 < t → Q x s → wpAny Mo A (reDrive t m) Q E s
  | 0, _, _, _, _, _, h, _ => absurd h (Nat.lt_irrefl _)
  | t + 1, n, m, e, ho, hn, _, hq => by
    unfold reDrive
    simp only [reTurnSteps, runFor_eq]
    by_cases h : (iter M.step 4 m).outcome.isSome = true
    · rw [if_pos h]
      obtain ⟨o', ho'⟩ := Option.isSome_iff_exists.mp h
      have e4 : iter M.step 4 m = x := by
        by_cases h4 : n ≤ 4
        · have := iter_done (k := 4 - n) (m := m) (n := n) (o := o) (by rw [e]; exact ho)
          rw [show n + (4 - n) = 4 by omega] at this
          rw [this, e]
        · have := iter_done (k := n - 4) (m := m) (n := 4) (o := o') ho'
          rw [show 4 + (n - 4) = n by omega] at this
          rw [← this, e]
      rw [e4]
      exact wpAny_pure hq
    · rw [if_neg h]
      have h4 : 4 < n := by
        apply Decidable.byContradiction
        intro hc
        have := iter_done (k := 4 - n) (m := m) (n := n) (o := o) (by rw [e]; exact ho)
        rw [show n + (4 - n) = 4 by omega] at this
        rw [this, e, ho] at h
        exact h rfl
      refine wpAny_bind (wpAny_rule ?_)
      refine wp_reDrive t (n - 4) _ ?_ ho (by omega) (by omega) hq
      rw [← iter_add, show 4 + (n - 4) = n by omega, e]

theorem wp_forRules {f : Nat → Bool} {g : Nat → String} {Q : PUnit → Shared → Prop} (h : Q PUnit.unit s) : ∀ l : List Nat,
    wpAny Mo A (forIn l PUnit.unit fun i _ => if f i = true then (rule (g i) >>= fun _ => pure (ForInStep.yield PUnit.unit)) else pure (ForInStep.yield PUnit.unit)) Q E s
  | [] => wpAny_pure h
  | i :: l => by
    rw [List.forIn_cons]
    refine wpAny_bind ?_
    by_cases hf : f i = true
    · rw [if_pos hf]
      exact wpAny_bind (wpAny_rule (wpAny_pure (wp_forRules h l)))
    · rw [if_neg hf]
      exact wpAny_pure (wp_forRules h l)

theorem wp_reRun {Q : Option M → Shared → Prop} {o : Sre.Outcome} {x m : M} {n : Nat} (e : iter M.step n m = x) (ho : x.outcome = some o) (hn : n ≤ 4 * 2 ^ 64)
    (hs : ∀ why, o ≠ .stuck why) (hq : Q (match o with | .matched => some x | _ => none) s) : wpAny Mo A (reRunToEnd m) Q E s := by
  unfold reRunToEnd
  refine wpAny_bind (wp_reDrive (2 ^ 64) n m e ho hn (by decide) ?_)
  refine wpAny_bind (wp_forRules ?_ _)
  rw [ho]
  cases o with
  | matched => exact wpAny_pure hq
  | failed => exact wpAny_pure hq
  | stuck why => exact absurd rfl (hs why)

theorem wp_fails {Q : Option M → Shared → Prop} {m : M} {n : Nat} (h : FailsIn n m) (hn : n ≤ 4 * 2 ^ 64) (hq : Q none s) : wpAny Mo A (reRunToEnd m) Q E s :=
  wp_reRun rfl h hn (fun _ e => nomatch e) hq
theorem wp_match {Q : Option M → Shared → Prop} {m : M} {n j : Nat} (h : MatchIn n m j) (hn : n ≤ 4 * 2 ^ 64) (hq : ∀ x : M, x.start = j → x.handed = j + 1 → Q (some x) s) : wpAny Mo A (reRunToEnd m) Q E s :=
  wp_reRun rfl h.1 hn (fun _ e => nomatch e) (hq _ h.2.1 h.2.2)
end
end Mine
end
section
theorem Mine.startReSearch : True := by
  w_top off
  trivial
open PySem PySem.Sre PySem.Builtin.Re PySem.Calls PyProof.Rows PySem.W
set_option maxRecDepth 100000
namespace Mine
theorem slot_search : Slot "re.Pattern" "search" "re.Pattern.search" :=
  .of (owner := "re.Pattern") (n := "search") (by rw [typeLookup_type, builtinLookup_eq_fast]; kernel_rfl) (by decide +kernel) (by decide +kernel) (by decide +kernel)
    (by first | exact .inl (by decide +kernel) | exact .inr (by decide +kernel)) (by rw [isSubtype_type]; kernel_rfl)
theorem type_search : typeOf (.builtin "re.Pattern.search") = pure (.type "method_descriptor") := by show builtinType _ = _; rw [builtinType_eq_fast]; kernel_rfl
theorem entry_search : entryFor table "re.Pattern.search" = some Builtin.«re.Pattern.search» := entryFor_of_tree (by kernel_rfl)
theorem args_search (a b : Value) : argsOk "re.Pattern.search" ⟨[a, b], []⟩ := by unfold argsOk; kernel_rfl
theorem named_search (v : Value) : reNamed "re.Pattern.search" "search" ["string", "pos", "endpos"] 1 [v] [] = pure [some v, none, none] := rfl
end Mine
namespace Mine
theorem plainAttrs_pat : PlainAttrs "re.Pattern" :=
  ⟨⟨"object.__getattribute__", by rw [typeLookup_type, builtinLookup_eq_fast]; kernel_rfl, by decide +kernel⟩, by rw [typeLookup_type, builtinLookup_eq_fast]; kernel_rfl⟩

/-- a compiled pattern, its code written out -/
noncomputable def PatAt (h : Heap) (a c : Addr) (pat : Value) (fl : Tok) (code : List Int) (kind : Int) : Prop :=
  (∃ o f, h.get? a = some o ∧ o.cls = .type "re.Pattern" ∧ o.dict = none ∧ o.data = .fields #[pat, .int f fl, .int 0 0, .none, .none, .ref c, .int kind 0]) ∧
  ∃ o n, h.get? c = some o ∧ o.data = .seq (code.map fun i => Value.int i 0).toArray n
theorem PatAt.keeps {h h' : Heap} {a c : Addr} {pat : Value} {fl : Tok} {code : List Int} {kind : Int} (x : PatAt h a c pat fl code kind) (k : ∀ b o, h.get? b = some o → h'.get? b = some o) : PatAt h' a c pat fl code kind := by
  obtain ⟨⟨o, f, e, r⟩, o', n, e', r'⟩ := x
  exact ⟨⟨o, f, k _ _ e, r⟩, o', n, k _ _ e', r'⟩

section
variable {prog : Program} {w : World} {A : Around} {E : Value → Shared → Prop} {s : Shared} {a c : Addr} {pat : Value} {fl : Tok} {code : List Int} {kind : Int}
theorem PatAt.typeIs (x : PatAt s.heap a c pat fl code kind) : s.TypeIs (.ref a) "re.Pattern" := by
  obtain ⟨⟨o, f, e, h, _⟩, _⟩ := x
  exact ⟨o, e, h⟩
theorem getMethod_search {pl : Sem Bool} {Q : Value × List Value → Shared → Prop} (x : PatAt s.heap a c pat fl code kind) (h : Q (.builtin "re.Pattern.search", [.ref a]) s) :
    wpAny (model prog w) A (getMethod (.ref a) "search" pl) Q E s :=
  getMethod_builtin x.typeIs plainAttrs_pat slot_search type_search (fun b e => by cases e; obtain ⟨⟨o, f, e, _, h, _⟩, _⟩ := x; exact ⟨o, e, h⟩) h

theorem wp_fieldsOf {M : Model} {o : Obj} {vs : Array Value} {Q : Array Value → Shared → Prop} (ho : s.heap.get? a = some o) (hd : o.data = .fields vs) (h : Q vs s) : wpAny M A (fieldsOf (.ref a)) Q E s := by
  unfold fieldsOf
  refine wpAny_bind (wpAny_load ho ?_)
  rw [hd]
  exact wpAny_pure h
theorem wp_rawItems {M : Model} {o : Obj} {xs : Array Value} {n : Nat} {Q : Array Int → Shared → Prop} (ho : s.heap.get? a = some o) (hd : o.data = .seq xs n) (h : Q (xs.map reRawOf) s) : wpAny M A (reRawItems (.ref a)) Q E s := by
  unfold reRawItems seqItems?
  refine wpAny_bind (wpAny_bind (wpAny_load ho ?_))
  rw [hd]
  exact wpAny_pure (wpAny_pure h)

noncomputable def hcodeI : List Int := [14, 8, 1, 2, 4294967295, 1, 1, 46, 0, 16, 46, 24, 9, 1, 4294967295, 13, 4, 8, 0, 0, 1, 6, 5, 1]
theorem hcode_of : (((hcodeI.map fun i => Value.int i 0).toArray.map reRawOf).map (·.toNat)) = hcode := by decide +kernel

/-- IPV4_RE.search(text) is None where no dot has a digit behind it -/
theorem call_search {x : Str} {t : Tok} {Q : Value → Shared → Prop} (P : PatAt s.heap a c pat fl hcodeI 0) (hx : NoDD x.cps) (hz : x.cps.size ≤ sizeLine) (h : Q .none s) :
    wpAny (model prog w) A (call (.builtin "re.Pattern.search") [.ref a, .str x t]) Q E s := by
  refine wpAny_call (codeAny_call_builtin slot_search.plain entry_search (slot_search.check _ _ _ _ _ _ _ _ P.typeIs (args_search _ _) ?_))
  obtain ⟨⟨o, f, ho, _, _, hd⟩, o', n, ho', hd'⟩ := P
  unfold Builtin.«re.Pattern.search» reTarget
  refine wpAny_bind ?_
  show wpAny _ _ (reNamed "re.Pattern.search" "search" ["string", "pos", "endpos"] 1 [Value.str x t] [] >>= _) _ _ s
  rw [named_search]
  refine wpAny_bind (wpAny_pure ?_)
  refine wpAny_bind (wpAny_pure ?_)
  refine wpAny_bind (wpAny_pure ?_)
  refine wpAny_bind (wp_fieldsOf ho hd ?_)
  refine wpAny_bind (wpAny_pure ?_)
  show wpAny _ _ (reNoCollectionInside (Value.str x t) 0 >>= fun _ => reRawItems (.ref c) >>= fun its => pure (ReTarget.mk (.ref a) (.str x t) (its.map (·.toNat)) x.cps 0 0 (min (0 : Int).toNat x.cps.size) (min (2 ^ 63 - 1 : Int).toNat x.cps.size))) _ _ s
  refine wpAny_bind (wpAny_pure ?_)
  refine wpAny_bind (wp_rawItems ho' hd' ?_)
  refine wpAny_pure ?_
  dsimp only
  rw [hcode_of, show min (0 : Int).toNat x.cps.size = 0 by simp, show min (2 ^ 63 - 1 : Int).toNat x.cps.size = x.cps.size by rw [sizeLine_eq] at hz; lia]
  unfold reAnswer
  obtain ⟨k, hk, hf⟩ := search_fails hx
  exact wpAny_bind (wp_fails hf (by rw [sizeLine_eq] at hz; lia) (wpAny_pure h))
end
end Mine
end
section
theorem Mine.startBytesJoin : True := by
  w_top off
  trivial
open PySem PySem.Calls PyProof.Rows PySem.W PySem.Builtin
set_option maxRecDepth 100000
namespace Mine
theorem slot_join : Slot "bytes" "join" "bytes.join" :=
  .of (owner := "bytes") (n := "join") (by rw [typeLookup_type, builtinLookup_eq_fast]; kernel_rfl) (by decide +kernel) (by decide +kernel) (by decide +kernel)
    (by first | exact .inl (by decide +kernel) | exact .inr (by decide +kernel)) (by rw [isSubtype_type]; kernel_rfl)
theorem type_join : typeOf (.builtin "bytes.join") = pure (.type "method_descriptor") := by show builtinType _ = _; rw [builtinType_eq_fast]; kernel_rfl
theorem entry_join : entryFor table "bytes.join" = some Builtin.«bytes.join» := entryFor_of_tree (by kernel_rfl)
theorem args_join (a b : Value) : argsOk "bytes.join" ⟨[a, b], []⟩ := by
  unfold argsOk; rw [signature?_of (id := "bytes.join") (n := ['n', 'i', 'o', 'j']) (o := ['s', 'e', 't', 'y', 'b']) (by kernel_rfl) FB.owner_bytes]; kernel_rfl
theorem getMethod_join {M : Model} {A : Around} {E : Value → Shared → Prop} {s : Shared} {b : Array UInt8} {t : Tok} {pl : Sem Bool} {Q : Value × List Value → Shared → Prop} (h : Q (.builtin "bytes.join", [.bytes b t]) s) : wpAny M A (getMethod (.bytes b t) "join" pl) Q E s := by
  with_reducible exact KBd.method_of (.bytes b t) (typeIs_bytes _ _ _) slot_join type_join KBd.noRef h

/-- the values are the bytes bs -/
inductive BytesAre : List Value → List (Array UInt8) → Prop where
  | nil : BytesAre [] []
  | cons (b : Array UInt8) (t : Tok) {vs : List Value} {bs : List (Array UInt8)} : BytesAre vs bs → BytesAre (Value.bytes b t :: vs) (b :: bs)
theorem BytesAre.length {vs : List Value} {bs : List (Array UInt8)} (h : BytesAre vs bs) : vs.length = bs.length := by
  induction h with
  | nil => rfl
  | cons b t h ih => simp [ih]
theorem BytesAre.append {vs vs' : List Value} {bs bs' : List (Array UInt8)} (h : BytesAre vs bs) (h' : BytesAre vs' bs') : BytesAre (vs ++ vs') (bs ++ bs') := by
  induction h with
  | nil => exact h'
  | cons b t h ih => exact .cons b t ih
theorem BytesAre.get {vs : List Value} {bs : List (Array UInt8)} (h : BytesAre vs bs) (i : Nat) (b : Array UInt8) (e : bs[i]? = some b) : ∃ t, vs[i]? = some (Value.bytes b t) := by
  induction h generalizing i with
  | nil => simp at e
  | cons b' t h ih =>
    cases i with
    | zero => simp at e; subst e; exact ⟨t, rfl⟩
    | succ i => simpa using ih i (by simpa using e)

theorem buffer_eqF {id : String} {b : Array UInt8} {t : Tok} {full : Bool} : Bytes.buffer? id (.bytes b t) full = pure (some b) := by
  unfold Bytes.buffer?
  rw [KBy.special_eq KBy.look_buffer, KBy.own_buffer, KBy.own_release]
  kernel_rfl
theorem take_eq {id : String} {b : Array UInt8} {t : Tok} : Bytes.takeBuffer? id (.bytes b t) 0 = pure (some (b, none)) := by
  unfold Bytes.takeBuffer?
  rw [KBy.special_eq KBy.look_buffer, KBy.own_buffer]
  simp only [buffer_eqF]
  kernel_rfl
theorem quiet_take {id : String} {b : Array UInt8} {t : Tok} : Bytes.takeBufferQuiet? id (.bytes b t) 0 = pure (some (b, none)) := by
  unfold Bytes.takeBufferQuiet?
  rw [take_eq]
  rfl

section
variable {prog : Program} {w : World} {A : Around} {E : Value → Shared → Prop} {s : Shared}
theorem letGo_any {M : Model} {keep : List Value} {Q : Unit → Shared → Prop} (h : Q () s) : ∀ l : List Value, wpAny M A (letGo l keep) Q E s
  | [] => wpAny_pure h
  | x :: r => by
    unfold letGo
    exact wpAny_bind (wpAny_holding (wpAny_point (letGo_any h r)))
theorem joinLetGo_bytes {M : Model} {keep : List Value} {Q : Unit → Shared → Prop} (h : Q () s) : ∀ taken : List (Value × Option Value), (∀ p ∈ taken, p.2 = none) → wpAny M A (Bytes.joinLetGo taken keep) Q E s
  | [], _ => wpAny_pure h
  | (x, w) :: r, hp => by
    obtain rfl := hp (x, w) (.head _)
    unfold Bytes.joinLetGo
    exact wpAny_bind (letGo_any (joinLetGo_bytes h r fun p hp' => hp p (.tail _ hp')) _)

theorem wp_pos {α : Type} {M : Model} {c : Prop} [Decidable c] {a b : Sem α} {Q : α → Shared → Prop} (hc : c) (h : wpAny M A a Q E s) : wpAny M A (if c then a else b) Q E s := by rw [if_pos hc]; exact h
theorem wp_neg {α : Type} {M : Model} {c : Prop} [Decidable c] {a b : Sem α} {Q : α → Shared → Prop} (hc : ¬ c) (h : wpAny M A b Q E s) : wpAny M A (if c then a else b) Q E s := by rw [if_neg hc]; exact h

theorem list_loop {M : Model} {σ : Type} {F : Nat → σ → Sem (ForInStep σ)} {n : Nat} (I : Nat → σ → Prop) {Q : σ → Shared → Prop}
    (hF : ∀ i st, i < n → I i st → wpAny M A (F i st) (fun r s' => s' = s ∧ ∃ st', r = .yield st' ∧ I (i + 1) st') E s) (hQ : ∀ st, I n st → Q st s) :
    ∀ (k i : Nat) (st : σ), i + k = n → I i st → wpAny M A (forIn (List.range' i k) st F) Q E s := by
  intro k
  induction k with
  | zero =>
    intro i st e h
    have e' : i = n := by lia
    subst e'
    exact wpAny_pure (hQ st h)
  | succ k ih =>
    intro i st e h
    rw [List.range'_succ, List.forIn_cons]
    refine wpAny_bind (wpAny_mono (hF i st (by lia) h) (fun r s' hr => ?_) fun _ _ x => x)
    obtain ⟨rfl, st', rfl, h'⟩ := hr
    exact ih (i + 1) st' (by lia) h'
theorem range_loop {M : Model} {σ : Type} {F : Nat → σ → Sem (ForInStep σ)} {n : Nat} {st₀ : σ} (I : Nat → σ → Prop) {Q : σ → Shared → Prop}
    (hF : ∀ i st, i < n → I i st → wpAny M A (F i st) (fun r s' => s' = s ∧ ∃ st', r = .yield st' ∧ I (i + 1) st') E s) (hQ : ∀ st, I n st → Q st s)
    (h0 : I 0 st₀) : wpAny M A (forIn [:n] st₀ F) Q E s := by
  rw [Std.Legacy.Range.forIn_eq_forIn_range']
  refine list_loop I hF hQ _ _ _ ?_ h0
  simp [Std.Legacy.Range.size]

theorem wp_seqItems {M : Model} {l : Addr} {o : Obj} {xs : Array Value} {n : Nat} {Q : Option (Array Value) → Shared → Prop} (ho : s.heap.get? l = some o) (hod : o.data = .seq xs n) (h : Q (some xs) s) : wpAny M A (seqItems? (.ref l)) Q E s := by
  unfold seqItems?
  refine wpAny_bind (wpAny_load ho ?_)
  rw [hod]
  exact wpAny_pure h

noncomputable def catB (bs : List (Array UInt8)) : Array UInt8 := bs.foldl (· ++ ·) #[]

theorem call_join {sep : Array UInt8} {t : Tok} {l : Addr} {vs : List Value} {bs : List (Array UInt8)} {Q : Value → Shared → Prop} (hl : s.heap.IsList l vs.toArray) (hb : BytesAre vs bs)
    (hz : vs.length ≤ sizeLine) (hz2 : ∀ n, Bytes.tooLong (bs.foldl (· + ·.size) (sep.size * n)) = false) (hz3 : (Bytes.joined sep bs).size ≤ sizeLine)
    (h : ∀ t' k, Q (.bytes (Bytes.joined sep bs) t') { s with toks := k }) :
    wpAny (model prog w) A (call (.builtin "bytes.join") [.bytes sep t, .ref l]) Q E s := by
  refine wpAny_call (codeAny_call_builtin slot_join.plain entry_join (slot_join.check _ _ _ _ _ _ _ _ (typeIs_bytes s sep t) (args_join _ _) ?_))
  unfold Builtin.«bytes.join» Bytes.joinM
  obtain ⟨o, ho, hoc, n, hod⟩ := id hl
  refine wpAny_bind (wpAny_pure (a := (Value.bytes sep t, Value.ref l)) ?_)
  dsimp only
  refine wp_pos rfl ?_
  refine wpAny_bind ?_
  unfold Bytes.joinItems
  refine wpAny_bind (wpAny_typeOf (T := "list") ⟨o, ho, hoc⟩ ?_)
  refine wp_pos rfl ?_
  refine wpAny_pure ?_
  refine wpAny_bind (wp_seqItems ho hod ?_)
  dsimp only
  refine wp_pos rfl ?_
  have hb' := hb
  have item : ∀ i, i < vs.length → ∃ b t', bs[i]? = some b ∧ vs.toArray.getD i .none = .bytes b t' := fun i hi => by
    have hi' : i < bs.length := by rw [← hb.length]; exact hi
    obtain ⟨t', e⟩ := hb.get i bs[i] (by simp [hi'])
    exact ⟨bs[i], t', by simp [hi'], by simp [Array.getD_eq_getD_getElem?, e]⟩
  cases hb with
  | nil =>
    refine wpAny_bind (range_loop (fun i st => st.1 = ([] : List (Array UInt8)).toArray.extract 0 i ∧ ∀ p ∈ st.2, p.2 = none ∧ p.1.onHeap = false) ?_ ?_ ?_)
    · intro i st hi
      exact absurd hi (by simp)
    · rintro ⟨parts, taken⟩ ⟨hp, ht⟩
      dsimp only at hp ⊢
      have hparts : parts = ([] : List (Array UInt8)).toArray := by rw [hp]; apply Array.ext'; simp [hb'.length]
      refine wpAny_bind (wpAny_pure (a := sep) ?_)
      have hlong := hz2 (parts.size - 1)
      refine wp_neg ?_ ?_
      · rw [← Array.foldl_toList, hparts] at *
        exact fun q => Bool.false_ne_true (hlong ▸ q)
      · rw [hparts]
        refine wpAny_bind (wpAny_mkBytes ?_ hz3)
        refine wpAny_bind (wpAny_holding (wpAny_point (wpAny_bind (joinLetGo_bytes ?_ _ fun p hp => (ht p hp).1))))
        exact wpAny_pure (h _ _)
    · exact ⟨by apply Array.ext'; simp, fun p hp => nomatch hp⟩
  | cons b t' hr => cases hr with
    | nil =>
      show wpAny _ _ (typeOf (.bytes b t') >>= _) _ _ s
      refine wpAny_bind (wpAny_typeOf (typeIs_bytes s b t') ?_)
      refine wp_pos rfl ?_
      refine wpAny_bind (wpAny_rule (wpAny_pure ?_))
      have := h t' s.toks
      rw [show Bytes.joined sep [b] = b by simp [Bytes.joined]] at this
      exact this
    | @cons b2 t2 vs2 bs2 hr =>
      refine wpAny_bind (range_loop (fun i st => st.1 = (b :: b2 :: bs2 : List (Array UInt8)).toArray.extract 0 i ∧ ∀ p ∈ st.2, p.2 = none ∧ p.1.onHeap = false) ?_ ?_ ?_)
      · rintro i ⟨parts, taken⟩ hi ⟨hp, ht⟩
        obtain ⟨x, tx, hx, hv⟩ := item i (by simpa using hi)
        refine wpAny_bind (wp_seqItems ho hod ?_)
        dsimp only
        have hno : (Bytes.Kind.bytes == Bytes.Kind.bytearray || taken.any fun x => x.1.onHeap) = false := by
          rw [show (Bytes.Kind.bytes == Bytes.Kind.bytearray) = false from rfl, Bool.false_or, List.any_eq_false]
          intro p hp
          rw [(ht p hp).2]; exact Bool.false_ne_true
        refine wp_neg (by rw [hno]; exact Bool.false_ne_true) ?_
        rw [hv, quiet_take]
        refine wpAny_bind (wpAny_holding (wpAny_pure ?_))
        dsimp only
        refine wpAny_bind (wp_seqItems ho hod ?_)
        dsimp only
        refine wp_neg (by simp) ?_
        refine wpAny_pure ⟨rfl, _, rfl, ?_, ?_⟩
        · dsimp only at hp ⊢
          rw [hp]
          have hi' : i < (b :: b2 :: bs2 : List (Array UInt8)).length := (List.getElem?_eq_some_iff.mp hx).1
          apply Array.ext'
          simp only [Array.toList_push, Array.toList_extract, List.extract_eq_take_drop, List.drop_zero, Nat.sub_zero]
          rw [List.take_add_one, hx]; rfl
        · intro p hp
          rcases List.mem_append.mp hp with hp | hp
          · exact ht p hp
          · rw [List.mem_singleton.mp hp]; exact ⟨rfl, rfl⟩
      · rintro ⟨parts, taken⟩ ⟨hp, ht⟩
        dsimp only at hp ⊢
        have hparts : parts = (b :: b2 :: bs2 : List (Array UInt8)).toArray := by rw [hp]; apply Array.ext'; simp [hb'.length]
        refine wpAny_bind (wpAny_pure (a := sep) ?_)
        have hlong := hz2 (parts.size - 1)
        refine wp_neg ?_ ?_
        · rw [← Array.foldl_toList, hparts] at *
          exact fun q => Bool.false_ne_true (hlong ▸ q)
        · rw [hparts]
          refine wpAny_bind (wpAny_mkBytes ?_ hz3)
          refine wpAny_bind (wpAny_holding (wpAny_point (wpAny_bind (joinLetGo_bytes ?_ _ fun p hp => (ht p hp).1))))
          exact wpAny_pure (h _ _)
      · exact ⟨by apply Array.ext'; simp, fun p hp => nomatch hp⟩
end
end Mine
end
section
theorem Mine.startQuote : True := by
  w_top off
  trivial
namespace Mine
open PySem PySem.Sre

/-- a dot more ahead of each dot at the start of a row; st: whether the text's first place is such a start -/
noncomputable def quo : Bool → List UInt8 → List UInt8
  | _, [] => []
  | st, c :: r => if st = true ∧ c = 46 then 46 :: 46 :: quo false r else c :: quo (c == 10) r

theorem quo_false_nil : quo false [] = [] := rfl

/-- hits of the pattern on a list, st at its first place -/
noncomputable def HitL (st : Bool) (l : List UInt8) (i : Nat) : Prop := l[i]? = some 46 ∧ (if i = 0 then st = true else l[i - 1]? = some 10)

theorem quo_cons (st : Bool) (c : UInt8) (r : List UInt8) : quo st (c :: r) = if st = true ∧ c = 46 then 46 :: 46 :: quo false r else c :: quo (c == 10) r := rfl

theorem hit_shift {st : Bool} {c : UInt8} {r : List UInt8} {i : Nat} : HitL st (c :: r) (i + 1) ↔ HitL (c == 10) r i := by
  unfold HitL
  rw [if_neg (by lia : ¬ i + 1 = 0)]
  cases i with
  | zero => simp
  | succ i => simp

theorem quo_none : ∀ (l : List UInt8) (st : Bool), (∀ i, i < l.length → ¬ HitL st l i) → quo st l = l
  | [], _, _ => rfl
  | c :: r, st, h => by
    rw [quo_cons, if_neg (fun q => h 0 (by simp) ⟨by simp [q.2], by simpa using q.1⟩)]
    rw [quo_none r (c == 10) fun i hi q => h (i + 1) (by simpa using hi) (hit_shift.mpr q)]

theorem quo_hit : ∀ (l : List UInt8) (st : Bool) (j : Nat), (∀ i, i < j → ¬ HitL st l i) → HitL st l j → quo st l = l.take j ++ 46 :: 46 :: quo false (l.drop (j + 1))
  | [], _, j, _, h => by have := h.1; simp at this
  | c :: r, st, 0, _, h => by
    obtain ⟨h1, h2⟩ := h
    rw [quo_cons, if_pos ⟨by simpa using h2, by simpa using h1⟩]
    simp
  | c :: r, st, j + 1, h, hj => by
    rw [quo_cons, if_neg (fun q => h 0 (by lia) ⟨by simp [q.2], by simpa using q.1⟩)]
    rw [quo_hit r (c == 10) j (fun i hi q => h (i + 1) (by lia) (hit_shift.mpr q)) (hit_shift.mp hj)]
    simp

theorem quo_length (l : List UInt8) : ∀ st, (quo st l).length ≤ 2 * l.length := by
  induction l with
  | nil => intro st; simp [quo]
  | cons c r ih =>
    intro st
    rw [quo_cons]
    split
    · have := ih false; simp; lia
    · have := ih (c == 10); simp; lia

/-- the text of bytes as the pattern's machine reads it -/
noncomputable abbrev natsOf (b : Array UInt8) : Array Nat := b.map (·.toNat)

theorem nat_at {b : Array UInt8} {i n : Nat} (hn : n ≠ 0) (hb : n < 256) : (natsOf b).getD i 0 = n ↔ b.toList[i]? = some n.toUInt8 := by
  rw [Array.getD_eq_getD_getElem?]
  simp only [natsOf, Array.getElem?_map]
  rw [← Array.getElem?_toList]
  cases h : b.toList[i]? with
  | none => simp; lia
  | some c =>
    simp only [Option.map_some, Option.getD_some, Option.some.injEq]
    constructor
    · intro e; subst e; simp
    · intro e; subst e
      simp [Nat.toUInt8]; lia

theorem hit_list {b : Array UInt8} {p i : Nat} (h0 : p ≠ 0 → b.toList[p - 1]? ≠ some 10) : HitL (p == 0) (b.toList.drop p) i ↔ Hit (natsOf b) (p + i) := by
  unfold HitL Hit
  rw [nat_at (n := 46) (by decide) (by decide), nat_at (n := 10) (by decide) (by decide)]
  rw [List.getElem?_drop]
  constructor
  · rintro ⟨h1, h2⟩
    refine ⟨?_, h1⟩
    by_cases hi : i = 0
    · subst hi
      left
      simpa using h2
    · rw [if_neg hi, List.getElem?_drop] at h2
      right
      rw [show p + i - 1 = p + (i - 1) by lia]
      exact h2
  · rintro ⟨h1, h2⟩
    refine ⟨h2, ?_⟩
    by_cases hi : i = 0
    · subst hi
      rw [if_pos rfl]
      rcases h1 with h1 | h1
      · simpa using h1
      · by_cases hp : p = 0
        · simpa using hp
        · exact absurd h1 (h0 hp)
    · rw [if_neg hi, List.getElem?_drop]
      rcases h1 with h1 | h1
      · lia
      · rw [show p + (i - 1) = p + i - 1 by lia]; exact h1
end Mine
end
section
theorem Mine.startReSub : True := by
  w_top off
  trivial
open PySem PySem.Sre PySem.Builtin.Re PySem.Calls PyProof.Rows PySem.W
set_option maxRecDepth 100000
namespace Mine
theorem slot_sub : Slot "re.Pattern" "sub" "re.Pattern.sub" :=
  .of (owner := "re.Pattern") (n := "sub") (by rw [typeLookup_type, builtinLookup_eq_fast]; kernel_rfl) (by decide +kernel) (by decide +kernel) (by decide +kernel)
    (by first | exact .inl (by decide +kernel) | exact .inr (by decide +kernel)) (by rw [isSubtype_type]; kernel_rfl)
theorem type_sub : typeOf (.builtin "re.Pattern.sub") = pure (.type "method_descriptor") := by show builtinType _ = _; rw [builtinType_eq_fast]; kernel_rfl
theorem entry_sub : entryFor table "re.Pattern.sub" = some Builtin.«re.Pattern.sub» := entryFor_of_tree (by kernel_rfl)
theorem args_sub (a b c : Value) : argsOk "re.Pattern.sub" ⟨[a, b, c], []⟩ := by unfold argsOk; kernel_rfl
theorem entry_subL : entryFor table "re.Pattern.sub.loop" = some Builtin.«re.Pattern.sub.loop» := entryFor_of_tree (by kernel_rfl)
theorem plain_subL : plainId "re.Pattern.sub.loop" = true := by decide +kernel
theorem named_sub (u v : Value) : reNamed "re.Pattern.sub" "sub" ["repl", "string", "count"] 2 [u, v] [] = pure [some u, some v, none] := rfl

noncomputable def tcodeI : List Int := [14, 4, 0, 1, 1, 6, 1, 16, 46, 1]
theorem tcode_of : (((tcodeI.map fun i => Value.int i 0).toArray.map reRawOf).map (·.toNat)) = tcode := by decide +kernel

theorem cut_nats {b : Array UInt8} {i j : Nat} : ((natsOf b).extract i j).map (·.toUInt8) = b.extract i j := by
  apply Array.ext
  · simp
  · intro k h1 h2
    simp [natsOf]

section
variable {prog : Program} {w : World} {A : Around} {E : Value → Shared → Prop} {s : Shared} {a c : Addr} {pat : Value} {fl : Tok} {code : List Int} {kind : Int}
theorem getMethod_sub {pl : Sem Bool} {Q : Value × List Value → Shared → Prop} (x : PatAt s.heap a c pat fl code kind) (h : Q (.builtin "re.Pattern.sub", [.ref a]) s) :
    wpAny (model prog w) A (getMethod (.ref a) "sub" pl) Q E s :=
  getMethod_builtin x.typeIs plainAttrs_pat slot_sub type_sub (fun b e => by cases e; obtain ⟨⟨o, f, e, _, h, _⟩, _⟩ := x; exact ⟨o, e, h⟩) h

theorem wp_push {M : Model} {pl : Addr} {vs : Array Value} {n : Nat} {v : Value} {Q : Unit → Shared → Prop} (ho : s.heap.get? pl = some (listOf vs n)) (hz : vs.size ≤ sizeLine)
    (h : ∀ h', h'.get? pl = some (listOf (vs.push v) (n + 1)) → Heap.SameBut pl s.heap h' → Q () { s with heap := h' }) : wpAny M A (updateSeq pl (·.push v)) Q E s := by
  refine wpAny_updateSeq ho rfl (h _ ?_ (Heap.SameBut.update _ _ _)) hz (by simp; exact hz)
  rw [Heap.get?_update_self _ ho rfl]
  simp [Obj.mapSeq]

theorem wp_whole {M : Model} {b : Array UInt8} {t : Tok} {Q : ReTarget → Shared → Prop} (P : PatAt s.heap a c pat fl tcodeI 1)
    (h : Q (ReTarget.mk (.ref a) (.bytes b t) tcode (natsOf b) 1 0 0 (natsOf b).size) s) : wpAny M A (reWholeTarget (.ref a) (.bytes b t)) Q E s := by
  obtain ⟨⟨o, f, ho, _, _, hd⟩, o', n, ho', hd'⟩ := P
  unfold reWholeTarget
  refine wpAny_bind (wp_fieldsOf ho hd ?_)
  refine wpAny_bind ?_
  unfold reTextOf
  refine wpAny_bind (wpAny_pure (a := none) ?_)
  dsimp only
  rw [KBy.quiet_eq]
  refine wpAny_bind (wpAny_pure ?_)
  refine wpAny_pure ?_
  show wpAny _ _ (reNoCollectionInside (Value.bytes b t) 1 >>= fun _ => reRawItems (.ref c) >>= fun its => pure (ReTarget.mk (.ref a) (.bytes b t) (its.map (·.toNat)) (natsOf b) 1 0 0 (natsOf b).size)) _ _ s
  refine wpAny_bind ?_
  unfold reNoCollectionInside
  refine wp_pos rfl ?_
  rw [KBy.isInstance_eq]
  refine wpAny_bind (wpAny_pure ?_)
  refine wp_neg (by decide) ?_
  refine wpAny_pure ?_
  refine wpAny_bind (wp_rawItems ho' hd' ?_)
  rw [tcode_of]
  exact wpAny_pure h

theorem wp_literal {M : Model} {b : Array UInt8} {t : Tok} {Q : Unit → Shared → Prop} (h : Q () s) : wpAny M A (reLiteralCannotBeTurned (.bytes b t)) Q E s := by
  unfold reLiteralCannotBeTurned
  refine wpAny_bind (wpAny_pure (a := none) ?_)
  refine wp_pos rfl ?_
  rw [KBy.isInstance_eq]
  refine wpAny_bind (wpAny_pure ?_)
  exact wp_neg (by decide) (wpAny_pure h)
end

noncomputable abbrev subArgs (a : Addr) (b : Array UInt8) (t u : Tok) (n p : Nat) (pl : Addr) : Args :=
  ⟨[.ref a, .bytes b t, .bytes #[46, 46] u, rawInt 0, rawInt 0, rawInt n, rawInt p, rawInt p, .bool false, .ref pl, .bool false], []⟩

noncomputable def flatB (bs : List (Array UInt8)) : List UInt8 := (bs.map (·.toList)).flatten

theorem joined_nil (bs : List (Array UInt8)) : Builtin.Bytes.joined #[] bs = (flatB bs).toArray := by
  have key : ∀ (bs : List (Array UInt8)) (k : Nat) (out : Array UInt8), (bs.zipIdx k).foldl (fun out (p, i) => (if i > 0 then out ++ (#[] : Array UInt8) else out) ++ p) out = out ++ (flatB bs).toArray := by
    intro bs
    induction bs with
    | nil => intro k out; simp [flatB]
    | cons b r ih =>
      intro k out
      rw [List.zipIdx_cons, List.foldl_cons, ih]
      apply Array.ext'
      simp only [ite_self, Array.append_empty]
      simp [flatB]
  unfold Builtin.Bytes.joined
  rw [key bs 0 #[]]
  simp
theorem flatB_append (bs bs' : List (Array UInt8)) : flatB (bs ++ bs') = flatB bs ++ flatB bs' := by simp [flatB]
theorem sum_sizes (bs : List (Array UInt8)) : ∀ n, bs.foldl (fun x y => x + y.size) n = n + (flatB bs).length := by
  induction bs with
  | nil => intro n; simp [flatB]
  | cons b r ih => intro n; rw [List.foldl_cons, ih]; simp [flatB]; lia

/-- b''.join over a list of bytes -/
theorem join_flat {prog : Program} {w : World} {A : Around} {E : Value → Shared → Prop} {s : Shared} {t : Tok} {l : Addr} {vs : List Value} {bs : List (Array UInt8)} {Q : Value → Shared → Prop} (hl : s.heap.IsList l vs.toArray) (hb : BytesAre vs bs)
    (hz : vs.length ≤ sizeLine) (hz2 : (flatB bs).length ≤ sizeLine) (h : ∀ t' k, Q (.bytes (flatB bs).toArray t') { s with toks := k }) :
    wpAny (model prog w) A (call (.builtin "bytes.join") [.bytes #[] t, .ref l]) Q E s := by
  refine call_join hl hb hz (fun n => ?_) (by rw [joined_nil]; simpa using hz2) (by rw [joined_nil]; exact h)
  rw [sum_sizes]
  refine KBy.tooLong_not ?_
  rw [sizeLine_eq] at hz2
  simp; exact hz2

theorem wp_slice {M : Model} {A : Around} {E : Value → Shared → Prop} {s : Shared} {b : Array UInt8} {i j : Nat} {Q : Value → Shared → Prop} (hz : b.size ≤ 2 ^ 20) (h : Q (.bytes (b.extract i j) s.toks) { s with toks := s.toks + 1 }) : wpAny M A (reSlice (natsOf b) 1 i j) Q E s := by
  unfold reSlice
  refine wp_neg (by decide) ?_
  rw [cut_nats]
  exact wpAny_mkBytes h (by rw [sizeLine_eq]; simp; lia)

theorem sub_loop {prog : Program} {w : World} {A : Around} {a c pl : Addr} {pat : Value} {fl : Tok} {b : Array UInt8} {t u : Tok} {Q E : Value → Shared → Prop} (ha : a ≠ pl) (hc : c ≠ pl) (hz : b.size ≤ 2 ^ 20) :
    ∀ (k p n : Nat) (vs : Array Value) (bs : List (Array UInt8)) (e : Nat) (s : Shared), p + k = b.size → PatAt s.heap a c pat fl tcodeI 1 → s.heap.get? pl = some (listOf vs e) → BytesAre vs.toList bs → vs.size ≤ 2 * p →
      (p ≠ 0 → b.toList[p - 1]? ≠ some 10) → (flatB bs).length ≤ 2 * p →
      (∀ h' t' tk, (∀ x o, x ≠ pl → s.heap.get? x = some o → h'.get? x = some o) → Q (.bytes (flatB bs ++ quo (p == 0) (b.toList.drop p)).toArray t') { s with heap := h', toks := tk }) →
      codeAny (model prog w) A (.builtin "re.Pattern.sub.loop" (subArgs a b t u n p pl)) (wants Q E) s := by
  intro k
  induction k using Nat.strongRecOn with
  | ind k ih =>
    intro p n vs bs e s hk P ho hb hv hp hf h
    refine codeAny_builtin entry_subL ?_
    rw [Around.under_plainId plain_subL]
    show wpAny _ _ (reWholeTarget (.ref a) (.bytes b t) >>= _) _ _ s
    refine wpAny_bind (wp_whole P ?_)
    show wpAny _ _ (reLiteralCannotBeTurned (.bytes #[46, 46] u) >>= _) _ _ s
    refine wpAny_bind (wp_literal ?_)
    show wpAny _ _ (reNextFound (ReTarget.mk (.ref a) (.bytes b t) tcode (natsOf b) 1 0 0 (natsOf b).size) (p : Int).toNat false >>= _) _ _ s
    refine wpAny_bind ?_
    unfold reNextFound
    have hsz : (natsOf b).size = b.size := by simp
    show wpAny _ _ (reRunToEnd (forSearch tcode (natsOf b) 0 p (natsOf b).size false)) _ _ s
    rcases sub_runs (text := natsOf b) (s := p) (by rw [hsz]; lia) with ⟨m, hm, hF, hno⟩ | ⟨m, j, hm, hM, h1, h2, h3, h4⟩
    · refine wp_fails hF (by rw [hsz] at hm; lia) ?_
      have hq : quo (p == 0) (b.toList.drop p) = b.toList.drop p := quo_none _ _ fun i hi q => hno (p + i) (by lia) (by rw [hsz]; simp at hi; lia) ((hit_list hp).mp q)
      rw [hq] at h
      have fin : ∀ (h' : Heap) (tk : Nat) (vs' : Array Value) (bs' : List (Array UInt8)) (e' : Nat), (∀ x o, x ≠ pl → s.heap.get? x = some o → h'.get? x = some o) → h'.get? pl = some (W.listOf vs' e') → BytesAre vs'.toList bs' → flatB bs' = flatB bs ++ b.toList.drop p → vs'.size ≤ 2 * b.size + 1 →
          wpAny (model prog w) A.in1 (do
            let joiner ← reSlice (natsOf b) 1 0 0
            let __do_lift ← seqItems? (.ref pl)
            let text ← if (__do_lift.getD #[]).isEmpty = true then pure joiner else call (.builtin (if 1 = 0 then "str.join" else "bytes.join")) [joiner, .ref pl]
            ret text)
            (fun fin s' => match fin with | .done f => wants Q E (.ok f) s' | .again c' => c'.quiet = true ∧ codeAny (model prog w) A c' (wants Q E) s') (fun e s' => wants Q E (.error e) s') { s with heap := h', toks := tk } := by
        intro h' tk vs' bs' e' hk' ho' hb' hfl hvs
        refine wpAny_bind (wp_slice hz ?_)
        refine wpAny_bind (wp_seqItems (s := { s with heap := h', toks := tk + 1 }) ho' rfl ?_)
        by_cases hemp : vs'.isEmpty = true
        · refine wp_pos hemp (wpAny_bind (wpAny_pure ?_))
          have hbe : bs' = [] := by
            have := hb'.length
            rw [Array.isEmpty_iff] at hemp
            rw [hemp] at this
            exact List.length_eq_zero_iff.mp this.symm
          have h0 := h h' tk (tk + 1) hk'
          rw [← hfl, hbe] at h0
          refine wpAny_pure ?_
          simpa [flatB] using h0
        · refine wp_neg hemp (wpAny_bind ?_)
          rw [show b.extract 0 0 = #[] by simp, if_neg (by decide : ¬ (1 : Nat) = 0)]
          refine join_flat (s := { s with heap := h', toks := tk + 1 }) (vs := vs'.toList) (bs := bs') ⟨_, by simpa using ho', rfl, e', rfl⟩ hb' ?_ ?_ fun t' k' => ?_
          · rw [sizeLine_eq]; simp; lia
          · rw [hfl, sizeLine_eq]; simp; lia
          · rw [hfl]
            exact wpAny_pure (h h' t' k' hk')
      show wpAny _ _ (if (p : Int).toNat < (natsOf b).size then _ else _) _ _ s
      have hpn : (p : Int).toNat = p := rfl
      by_cases hlt : p < b.size
      · refine wp_pos (by rw [hpn, hsz]; exact hlt) ?_
        refine wpAny_bind (wp_slice hz ?_)
        refine wpAny_bind (wp_push (s := { s with toks := s.toks + 1 }) ho (by rw [sizeLine_eq]; lia) fun h' ho' hs => ?_)
        refine fin h' (s.toks + 1) _ (bs ++ [b.extract p b.size]) _ (fun x o hx e => (hs.2 x hx).trans e) ho' ?_ ?_ (by simp; lia)
        · simp only [Array.toList_push, hpn, hsz]
          exact hb.append (.cons _ _ .nil)
        · rw [flatB_append]
          congr 1
          simp [flatB, List.extract_eq_take_drop]
          rw [List.take_of_length_le (by simp)]
      · refine wp_neg (by rw [hpn, hsz]; exact hlt) ?_
        refine fin s.heap s.toks vs bs e (fun _ _ _ e => e) ho hb ?_ (by lia)
        rw [List.drop_eq_nil_of_le (by simp; lia)]
        simp
    · refine wp_match hM (by rw [hsz] at hm; lia) fun x hxs hxh => ?_
      dsimp only
      rw [hxs, hxh]
      have hpn : (p : Int).toNat = p := rfl
      have hj : j < b.size := by rw [← hsz]; exact h2
      have hq : quo (p == 0) (b.toList.drop p) = (b.toList.drop p).take (j - p) ++ 46 :: 46 :: quo false ((b.toList.drop p).drop (j - p + 1)) := by
        refine quo_hit _ _ (j - p) (fun i hi q => h4 (p + i) (by lia) (by lia) ((hit_list hp).mp q)) ((hit_list hp).mpr ?_)
        rw [show p + (j - p) = j by lia]; exact h3
      rw [List.drop_drop, show p + (j - p + 1) = j + 1 by lia] at hq
      rw [hq] at h
      have hdot : b.toList[j]? = some 46 := (nat_at (n := 46) (by decide) (by decide)).mp h3.2
      have go : ∀ (h' : Heap) (tk : Nat) (vs' : Array Value) (bs' : List (Array UInt8)) (e' : Nat), (∀ x o, x ≠ pl → s.heap.get? x = some o → h'.get? x = some o) → h'.get? pl = some (W.listOf vs' e') → BytesAre vs'.toList bs' →
          flatB bs' = flatB bs ++ (b.toList.drop p).take (j - p) → vs'.size ≤ 2 * j + 1 → 
          wpAny (model prog w) A.in1 (updateSeq pl (·.push (.bytes #[46, 46] u)) >>= fun _ => again (.builtin "re.Pattern.sub.loop" (subArgs a b t u (n + 1) (j + 1) pl)))
            (fun fin s' => match fin with | .done f => wants Q E (.ok f) s' | .again c' => c'.quiet = true ∧ codeAny (model prog w) A c' (wants Q E) s') (fun e s' => wants Q E (.error e) s') { s with heap := h', toks := tk } := by
        intro h' tk vs' bs' e' hk' ho' hb' hfl hvs
        refine wpAny_bind (wp_push (s := { s with heap := h', toks := tk }) ho' (by rw [sizeLine_eq]; lia) fun h'' ho'' hs'' => ?_)
        refine wpAny_pure ⟨plainId_quiet plain_subL _, ?_⟩
        have keep : ∀ x o, x ≠ pl → s.heap.get? x = some o → h''.get? x = some o := fun x o hx e => (hs''.2 x hx).trans (hk' x o hx e)
        have P'' : PatAt h'' a c pat fl tcodeI 1 := by
          obtain ⟨⟨o, f, e, r⟩, o', n', e', r'⟩ := P
          exact ⟨⟨o, f, keep _ _ ha e, r⟩, o', n', keep _ _ hc e', r'⟩
        refine ih (b.size - (j + 1)) (by lia) (j + 1) (n + 1) (vs'.push (.bytes #[46, 46] u)) (bs' ++ [#[46, 46]]) (e' + 1) { s with heap := h'', toks := tk } (by lia) P'' ho'' ?_ (by simp; lia) (fun _ => ?_) ?_ ?_
        · simp only [Array.toList_push]
          exact hb'.append (.cons _ _ .nil)
        · rw [show j + 1 - 1 = j by lia, hdot]
          decide
        · rw [flatB_append, hfl]
          simp [flatB] at hf ⊢
          lia
        · intro h3' t' tk' hk3
          have := h h3' t' tk' fun x o hx e => hk3 x o hx (keep x o hx e)
          rw [flatB_append, hfl, show (j + 1 == 0) = false by simp]
          simpa [flatB] using this
      by_cases hlt : p < j
      · refine wp_pos (by rw [hpn]; exact hlt) ?_
        refine wpAny_bind (wp_slice hz ?_)
        refine wpAny_bind (wp_push (s := { s with toks := s.toks + 1 }) ho (by rw [sizeLine_eq]; lia) fun h' ho' hs => ?_)
        refine wp_pos rfl ?_
        refine wpAny_bind (wpAny_pure ?_)
        refine wp_pos rfl ?_
        rw [show (j + 1 == j) = false by simp]
        refine go h' (s.toks + 1) _ (bs ++ [b.extract p j]) _ (fun x o hx e => (hs.2 x hx).trans e) ho' ?_ ?_ (by simp; lia)
        · simp only [Array.toList_push, hpn]
          exact hb.append (.cons _ _ .nil)
        · rw [flatB_append]
          congr 1
          simp [flatB, List.extract_eq_take_drop]
      · refine wp_neg (by rw [hpn]; exact hlt) ?_
        refine wp_pos rfl ?_
        refine wpAny_bind (wpAny_pure ?_)
        refine wp_pos rfl ?_
        rw [show (j + 1 == j) = false by simp]
        refine go s.heap s.toks vs bs e (fun _ _ _ e => e) ho hb ?_ (by lia)
        rw [show j - p = 0 by lia]
        simp

section
variable {prog : Program} {w : World} {A : Around} {E : Value → Shared → Prop} {s : Shared} {a c : Addr} {pat : Value} {fl : Tok}
theorem special_call_bytes {b : Array UInt8} {t : Tok} : specialOf (.bytes b t) "__call__" = pure none := KBy.special_eq (by rw [typeLookup_type, builtinLookup_eq_fast]; kernel_rfl)

/-- _twin_re_1.sub(b'..', text) -/
theorem call_sub {b : Array UInt8} {t u : Tok} {Q : Value → Shared → Prop} (P : PatAt s.heap a c pat fl tcodeI 1) (hz : b.size ≤ 2 ^ 20)
    (h : ∀ h' t' tk, s.heap.StaysIn h' → Q (.bytes (quo true b.toList).toArray t') { s with heap := h', toks := tk }) :
    wpAny (model prog w) A (call (.builtin "re.Pattern.sub") [.ref a, .bytes #[46, 46] u, .bytes b t]) Q E s := by
  refine wpAny_call (codeAny_call_builtin slot_sub.plain entry_sub (slot_sub.check _ _ _ _ _ _ _ _ P.typeIs (args_sub _ _ _) ?_))
  show wpAny _ _ (reNamed "re.Pattern.sub" "sub" ["repl", "string", "count"] 2 [Value.bytes #[46, 46] u, Value.bytes b t] [] >>= _) _ _ s
  rw [named_sub]
  refine wpAny_bind (wpAny_pure ?_)
  refine wpAny_bind (wpAny_pure ?_)
  show wpAny _ _ (specialOf (.bytes #[46, 46] u) "__call__" >>= _) _ _ s
  rw [special_call_bytes]
  refine wpAny_bind (wpAny_pure ?_)
  refine wp_neg (by decide) ?_
  refine wpAny_bind (wpAny_bind (wpAny_pure (wpAny_pure ?_)))
  dsimp only
  rw [KBy.quiet_eq]
  refine wpAny_bind (wpAny_pure ?_)
  dsimp only
  refine wpAny_bind (wpAny_pure ?_)
  refine wp_neg (by decide) ?_
  refine wp_pos (by decide +kernel) ?_
  refine wpAny_bind (wpAny_pure ?_)
  dsimp only
  refine wpAny_bind (wpAny_holding (wp_whole P ?_))
  refine wp_neg (by decide) ?_
  refine wpAny_bind (wpAny_newObj_type ?_ (by size_fits))
  refine wpAny_pure ⟨plainId_quiet plain_subL _, ?_⟩
  have ha : a ≠ s.heap.objs.size := by obtain ⟨⟨o, f, e, _⟩, _⟩ := P; exact Nat.ne_of_lt (Heap.lt_size e)
  have hc : c ≠ s.heap.objs.size := by obtain ⟨_, o, n, e, _⟩ := P; exact Nat.ne_of_lt (Heap.lt_size e)
  refine sub_loop ha hc hz b.size 0 0 #[] [] 0 _ (by lia) (P.keeps fun b o e => Heap.get?_push_of_some _ e) (Heap.get?_push_size _ rfl) .nil (by simp) (fun q => absurd rfl q) (by simp [flatB]) fun h' t' tk hk => ?_
  have := h h' t' tk fun x o e => hk x o (Nat.ne_of_lt (Heap.lt_size e)) (Heap.get?_push_of_some _ e)
  simpa [flatB] using this
end
end Mine
end
section
theorem Mine.startBase : True := by
  w_top off
  trivial
open PySem PySem.Spec PySem.Calls PyProof.Rows PySem.W
set_option maxRecDepth 100000
namespace Mine

/-- the place of a call: nothing handled, depth and C units as numbers -/
noncomputable abbrev AA (dp un : Nat) (fr : Option (List Env)) (gd : Option (List Code)) : Around := { handled := none, depth := dp, frames := fr, guards := gd, units := un }

section
variable {prog : Program} {w : World} {A : Around} {E : Value → Shared → Prop} {s : Shared} {K : Frag} {p : Program} {loose : List Str} {mean : ExcName → Option Value} {mg mb : Str → Option Value} {Q : Value → Shared → Prop}
  {name qual : Str} {params : Arguments} {body : List Stmt} {scope : Scope} {doc pm cdv ct oc : Value} {od : Option Addr} {osl : Array (Option Value)} {f : Addr} {args : List Value} {binds : List (Str × Value)}

/-- a call of a def without cells: the body from the caller's whole heap on -/
theorem call_fn (X : K.In s.heap) (T : TopRead p loose mg mb s.heap) (ho : K.lookup f = some ⟨oc, od, .func (fnOf name qual params body scope .none .none doc pm none cdv ct), osl⟩) (hcd : codeIn K cdv qual = true) (hroom : A.depth < recursionLimit)
    (hbind : bindArgs (fnOf name qual params body scope .none .none doc pm none cdv ct) ⟨args, []⟩ = pure binds) (hloc : ∀ y ∈ binds, scope.names.lookup y.1 = some .local)
    (h : ∀ h₁ tk E', Fr s.heap s.heap.objs.size h₁ (fun y => binds.reverse.lookup y) → News s.heap s.heap.objs.size h₁ [] →
      wpAny (model prog w) (A.deeper (envX qual scope s.heap.objs.size f cdv [])) (execs body (envX qual scope s.heap.objs.size f cdv []))
        (fun fl s' => Q (match fl with | .ret v => v | _ => .none) s') E' { s with heap := h₁, toks := tk })
    (hco : scope.isCoroutine = false := by rfl) (hgen : scope.isGenerator = false := by rfl) (hk : scope.kind = .function := by rfl) (hcell : ∀ x ∈ scope.names, x.2 ≠ .cell := by decide) :
    wpAny (model prog w) A (call (.ref f) args) Q E s := by
  refine wpAny_call ?_
  refine codeAny_call_def (fd := fnOf name qual params body scope .none .none doc pm none cdv ct) (body := body) (binds := binds) hroom (X _ _ ho) rfl T.nolimit (codeRec_of X hcd) rfl (BindsTo.of_eq hbind) hcell hloc (fun h₁ hns hk₁ => ?_) hco hgen hk
  exact h h₁ _ _ ⟨hns, hk₁, Nat.le_refl _⟩ News.nil
end
end Mine
namespace Mine
section
variable {prog : Program} {w : World} {A : Around} {E : Value → Shared → Prop} {s : Shared} {Q : Value → Shared → Prop}
  {name qual : Str} {params : Arguments} {body : List Stmt} {scope : Scope} {doc pm cdv ct dV kV : Value} {an : Option Addr} {fo : Obj} {f : Addr} {args : List Value} {binds : List (Str × Value)} {cl : List (Str × Addr)}

/-- a call of a def, with cells or without, a part of the heap laid aside as a ledger that the body may turn -/
theorem call_fnC (led : List (Addr × Obj)) (hled : ∀ p ∈ led, s.heap.get? p.1 = some p.2) (hlim : s.heap.NoLimit) (ho : s.heap.get? f = some fo) (hd : fo.data = .func (fnX name qual params body scope [] dV kV doc pm an cdv ct)) (hcd : s.heap.CodeRec cdv qual) (hroom : A.depth < recursionLimit)
    (hbind : bindArgs (fnX name qual params body scope [] dV kV doc pm an cdv ct) ⟨args, []⟩ = pure binds) (hkind : (binds.all fun y => scope.names.lookup y.1 == some .local || scope.names.lookup y.1 == some .cell) = true)
    (hnd : ((cellsFrom 0 scope.names []).map (·.1)).Nodup)
    (h : ∀ h₁ tk cells E', Fr (hideAll s.heap (led.map (·.1))) s.heap.objs.size h₁ (bindL (envOfC qual scope s.heap.objs.size f cdv).kindOf binds fun _ => none) → News (hideAll s.heap (led.map (·.1))) s.heap.objs.size h₁ (cells ++ led) →
      CellsAre (bindC (envOfC qual scope s.heap.objs.size f cdv).kindOf binds fun _ => none) (cellsFrom (s.heap.objs.size + 1) scope.names []) cells →
      wpAny (model prog w) (A.deeper (envOfC qual scope s.heap.objs.size f cdv)) (execs body (envOfC qual scope s.heap.objs.size f cdv))
        (fun fl s' => Q (match fl with | .ret v => v | _ => .none) s') E' { s with heap := h₁, toks := tk })
    (hco : scope.isCoroutine = false := by rfl) (hgen : scope.isGenerator = false := by rfl) (hk : scope.kind = .function := by rfl) :
    wpAny (model prog w) A (call (.ref f) args) Q E s := by
  refine wpAny_call ?_
  refine codeAny_call_function hroom ho hd hco hgen rfl hcd ((BindsTo.of_eq hbind) _ _ _ _ ?_)
  refine wpAny_newFunctionEnv_cells hk (kindsX hkind _) fun env' he s' x => ?_
  subst he
  refine ⟨hlim.keeps x.toInCall.keep, codeAny_func ?_⟩
  obtain ⟨h₁, tk, rfl, _⟩ := x.done
  have hk₁ := x.toInCall.keep
  obtain ⟨cells, NC, Y⟩ := Cl.news (h₀ := s.heap) (Nat.le_refl _) fun n c hm => ⟨x.cell n c (lookup_of_mem_nodup (cellsFrom_names scope.names 0 (s.heap.objs.size + 1) [] [] rfl ▸ hnd) hm), x.above n c hm⟩
  refine h h₁ tk cells _ ⟨x.toInCall.ns, fun b o e => hk₁ b o (of_hideAll _ e), Nat.le_of_eq (hideAll_size _ _)⟩ (fun p hp => ?_) Y
  rcases List.mem_append.mp hp with hp | hp
  · refine ⟨(NC p hp).1, (NC p hp).2.1, ?_⟩
    cases q : (hideAll s.heap (led.map (·.1))).get? p.1 with
    | none => rfl
    | some o => have := of_hideAll _ q; rw [(NC p hp).2.2] at this; cases this
  · exact ⟨hk₁ _ _ (hled p hp), Nat.ne_of_lt (Heap.lt_size (hled p hp)), hideAll_none _ (List.mem_map_of_mem hp)⟩

/-- the same for a def made in a body (its free names from cl), without cells of its own -/
theorem call_fnN (led : List (Addr × Obj)) (hled : ∀ p ∈ led, s.heap.get? p.1 = some p.2) (hlim : s.heap.NoLimit) (ho : s.heap.get? f = some fo) (hd : fo.data = .func (fnX name qual params body scope cl dV kV doc pm an cdv ct)) (hcd : s.heap.CodeRec cdv qual) (hroom : A.depth < recursionLimit)
    (hbind : bindArgs (fnX name qual params body scope cl dV kV doc pm an cdv ct) ⟨args, []⟩ = pure binds) (hloc : ∀ y ∈ binds, scope.names.lookup y.1 = some .local)
    (h : ∀ h₁ tk E', Fr (hideAll s.heap (led.map (·.1))) s.heap.objs.size h₁ (fun y => binds.reverse.lookup y) → News (hideAll s.heap (led.map (·.1))) s.heap.objs.size h₁ led →
      wpAny (model prog w) (A.deeper (envX qual scope s.heap.objs.size f cdv cl)) (execs body (envX qual scope s.heap.objs.size f cdv cl))
        (fun fl s' => Q (match fl with | .ret v => v | _ => .none) s') E' { s with heap := h₁, toks := tk })
    (hco : scope.isCoroutine = false := by rfl) (hgen : scope.isGenerator = false := by rfl) (hk : scope.kind = .function := by rfl) (hcell : ∀ x ∈ scope.names, x.2 ≠ .cell := by decide) :
    wpAny (model prog w) A (call (.ref f) args) Q E s := by
  refine wpAny_call ?_
  refine codeAny_call_def (fd := fnX name qual params body scope cl dV kV doc pm an cdv ct) (body := body) (binds := binds) hroom ho hd hlim hcd rfl (BindsTo.of_eq hbind) hcell hloc (fun h₁ hns hk₁ => ?_) hco hgen hk
  exact h h₁ _ _ ⟨hns, fun b o e => hk₁ b o (of_hideAll _ e), Nat.le_of_eq (hideAll_size _ _)⟩ fun p hp => ⟨hk₁ _ _ (hled p hp), Nat.ne_of_lt (Heap.lt_size (hled p hp)), hideAll_none _ (List.mem_map_of_mem hp)⟩
end
end Mine
end
section
theorem Mine.startSpecHDN : True := by
  w_top off
  trivial
open PySem PySem.Spec PySem.Calls PyProof.Rows PySem.W
set_option maxRecDepth 100000
set_option maxHeartbeats 4000000
namespace Mine

structure HostLike (x : Str) : Prop where
  ne : x.cps.toList ≠ []
  first : x.cps.toList[0]? ≠ some 46
  last : x.cps.toList[x.cps.size - 1]? ≠ some 46
  dd : NoDD x.cps
  short : x.cps.size ≤ 1000

theorem dotS : Str.ofString "." = Str.mk #[46] := by decide

theorem item_ne_dot {x : Str} {i : Int} {j : Nat} (hj : seqIndex? i x.cps.size = some j) (hlt : j < x.cps.size) (h : x.cps.toList[j]? ≠ some 46) : ¬ (Txt.item x i == Str.ofString ".") = true := by
  intro q
  have q := eq_of_beq q
  rw [Txt.item, Txt.charAt, PySem.Str.length, hj, dotS] at q
  have q2 : (x.cps[j]?).getD 0 = 46 := by
    have := congrArg (fun z : Str => z.cps[0]?) q
    simpa using this
  apply h
  rw [Array.getElem?_toList]
  rw [Array.getElem?_eq_getElem hlt] at q2 ⊢
  simpa using q2

theorem pat_host {w : World} {h : Heap} (X : (Mine.hd.heap_39 w.params).In h) : PatAt h 36 35 (.str (Str.ofString "\\.\\d+$") 285) 312 hcodeI 0 := by
  exact ⟨⟨_, 256, X 36 _ (by rfl), rfl, rfl, rfl⟩, _, _, X 35 _ (by rfl), rfl⟩

theorem is_HDN_spec : ∀ {w : World} {dp un : Nat} {fr : Option (List Env)} {gd : Option (List Code)} {E : Value → Shared → Prop} {s : Shared} {p : Program} {loose : List Str} {mg mb : Str → Option Value} {Q : Value → Shared → Prop} {x : Str} {t : Tok},
    (Mine.hd.heap_39 w.params).In s.heap → TopRead p loose mg mb s.heap → HostLike x → dp + 1 < recursionLimit → un + 20 < cLine →
    (∀ h' tk, s.heap.StaysIn h' → Q (.bool true) { s with heap := h', toks := tk }) →
    wpAny (model PySem.Challenge.rw_xe0036_01.row.prog w) (AA dp un fr gd) (call (.ref 43) [.str x t]) Q E s := by
  k_fill
  intro w dp un fr gd E s p loose mg mb Q x t X T H hdp hun h
  refine call_fn (binds := [(Str.ofString "text", .str x t)]) X T (by rfl) (by kernel_rfl) (by show dp < _; lia) (by rfl) (locs rfl) fun h₁ tk E' F N => ?_
  have P := (pat_host X).keeps F.keep
  iterate 5 walk1
  refine getMethod_search P ?_
  iterate 4 walk1
  refine call_search P H.dd (by rw [sizeLine_eq]; have := H.short; lia) ?_
  iterate 10 walk1
  have hne : ¬ (x == Str.ofString "") = true := by
    intro q
    have := eq_of_beq q
    exact H.ne (by rw [this]; rfl)
  refine ite_neg hne ?_
  have hpos : 0 < x.length := by
    have := H.ne
    rw [PySem.Str.length, ← Array.length_toList]
    exact List.length_pos_iff.mpr this
  have hpos' : 0 < x.cps.size := hpos
  have i0 := item_ne_dot (x := x) (i := 0) (j := 0) (by simp [seqIndex?, hpos']) hpos' H.first
  have i1 := item_ne_dot (x := x) (i := -1) (j := x.cps.size - 1) (by simp [seqIndex?]; lia) (by lia) H.last
  iterate 12 walk1
  refine ite_neg i0 ?_
  iterate 11 walk1
  refine ite_neg i1 ?_
  iterate 7 walk1
  exact h _ _ F.keep
end Mine
end
section
theorem Mine.startSpecReach : True := by
  w_top off
  trivial
open PySem PySem.Spec PySem.Calls PyProof.Rows PySem.W
set_option maxRecDepth 100000
set_option maxHeartbeats 4000000
namespace Mine

theorem reach_spec : ∀ {w : World} {dp un : Nat} {fr : Option (List Env)} {gd : Option (List Code)} {E : Value → Shared → Prop} {s : Shared} {p : Program} {loose : List Str} {mg mb : Str → Option Value} {Q : Value → Shared → Prop} {x b : Str} {i : Int} {t : Tok},
    (Mine.hd.heap_39 w.params).In s.heap → TopRead p loose mg mb s.heap → HostLike x → Txt.find x (Str.ofString ".") = i → 0 ≤ i → i < 1000 → Txt.slice x (some (i + 1)) none = b → (Txt.find b (Str.ofString ".") ≥ 0 ∨ b = Str.ofString "local") →
    b.length ≤ 1000 → dp + 2 < recursionLimit → un + 30 < cLine →
    (∀ h' tk t', s.heap.StaysIn h' → Q (.str (Str.ofString "." ++ b) t') { s with heap := h', toks := tk }) →
    wpAny (model PySem.Challenge.rw_xe0036_01.row.prog w) (AA dp un fr gd) (call (.ref 57) [.str x t]) Q E s := by
  k_fill
  intro w dp un fr gd E s p loose mg mb Q x b i t X T H hi hi0 hi1 hb hor hbl hdp hun h
  refine call_fn (binds := [(Str.ofString "h", .str x t)]) X T (by rfl) (by kernel_rfl) (by show dp < _; lia) (by rfl) (locs rfl) fun h₁ tk E' F N => ?_
  have hxl : x.length ≤ 1000 := H.short
  subst hi
  subst hb
  iterate 58 walk1
  rename Fr _ _ _ _ => F1
  rename News _ _ _ _ => N1
  refine is_HDN_spec (dp := dp + 1) (un := un + 3) (by exact X.keeps F1.keep) (by exact T.keeps F1.keep) H (by lia) (by lia) fun h2 tk2 hs2 => ?_
  have F2 := F1.keeps hs2
  have N2 := N1.grown hs2
  clear F1 N1
  have fin : ∀ (h3 : Heap) (tk3 : Nat) (t' : Tok) (y : Str), s.heap.StaysIn h3 → y = Txt.slice x (some (Txt.find x (Str.ofString ".") + 1)) none → Q (.str (Str.ofString "." ++ y) t') { s with heap := h3, toks := tk3 } :=
    fun h3 tk3 t' y hk e => e ▸ h h3 tk3 t' hk
  dsimp only
  iterate 10 walk1
  · iterate 10 walk1
    exact fin _ _ _ _ F2.keep rfl
  · have hb := hor.resolve_left (by assumption)
    iterate 6 walk1
    refine ite_pos (by rw [hb]; exact beq_self_eq_true _) ?_
    iterate 10 walk1
    exact fin _ _ _ _ F2.keep rfl
end Mine
end
section
theorem Mine.startSpecDM : True := by
  w_top off
  trivial
open PySem PySem.Spec PySem.Calls PyProof.Rows PySem.W
set_option maxRecDepth 100000
set_option maxHeartbeats 4000000
namespace Mine

theorem domain_match_spec : ∀ {w : World} {dp un : Nat} {fr : Option (List Env)} {gd : Option (List Code)} {E : Value → Shared → Prop} {s : Shared} {p : Program} {loose : List Str} {mg mb : Str → Option Value} {Q : Value → Shared → Prop} {x y : Str} {t u : Tok},
    (Mine.hd.heap_39 w.params).In s.heap → TopRead p loose mg mb s.heap → HostLike (Txt.lower x) → HostLike (Txt.slice (Txt.lower y) (some 1) none) → (Txt.lower x == Txt.lower y) = false → Txt.startswith (Txt.lower y) (Str.ofString ".") = true →
    x.length ≤ 1000 → y.length ≤ 1000 → (Txt.lower y).length ≤ 1000 → dp + 2 < recursionLimit → un + 30 < cLine →
    (∀ h' tk, s.heap.StaysIn h' → Q (.bool (!(Txt.rfind (Txt.lower x) (Txt.lower y) == -1 || Txt.rfind (Txt.lower x) (Txt.lower y) == 0))) { s with heap := h', toks := tk }) →
    wpAny (model PySem.Challenge.rw_xe0036_01.row.prog w) (AA dp un fr gd) (call (.ref 50) [.str x t, .str y u]) Q E s := by
  k_fill
  intro w dp un fr gd E s p loose mg mb Q x y t u X T H H2 hne hst hxl hyl hyl2 hdp hun h
  refine call_fn (binds := [(Str.ofString "A", .str x t), (Str.ofString "B", .str y u)]) X T (by rfl) (by kernel_rfl) (by show dp < _; lia) (by rfl) (locs rfl) fun h₁ tk E' F N => ?_
  have hxl2 : (Txt.lower x).length ≤ 1000 := H.short
  iterate 37 walk1
  rename Fr _ _ _ _ => F1
  rename News _ _ _ _ => N1
  refine is_HDN_spec (dp := dp + 1) (un := un + 3) (by exact X.keeps F1.keep) (by exact T.keeps F1.keep) H (by lia) (by lia) fun h2 tk2 hs2 => ?_
  have F2 := F1.keeps hs2
  have N2 := N1.grown hs2
  clear F1 N1
  dsimp only
  iterate 16 walk1
  have fin : ∀ (h3 : Heap) (tk3 : Nat) (r : Bool), s.heap.StaysIn h3 → r = (!(Txt.rfind (Txt.lower x) (Txt.lower y) == -1 || Txt.rfind (Txt.lower x) (Txt.lower y) == 0)) → Q (.bool r) { s with heap := h3, toks := tk3 } :=
    fun h3 tk3 r hk e => e ▸ h h3 tk3 hk
  clear h
  iterate 9 walk1
  by_cases h1 : Txt.rfind (Txt.lower x) (Txt.lower y) = -1
  · refine ite_pos (by simp [h1]) ?_
    iterate 5 walk1
    exact fin _ _ _ (Fr.keep (by assumption)) (by simp [h1])
  · refine ite_neg (by simp [h1]) ?_
    iterate 6 walk1
    by_cases h2 : Txt.rfind (Txt.lower x) (Txt.lower y) = 0
    · refine ite_pos (by simp [h2]) ?_
      iterate 5 walk1
      exact fin _ _ _ (Fr.keep (by assumption)) (by simp [h2])
    · refine ite_neg (by simp [h2]) ?_
      iterate 16 walk1
      rw [hst]
      iterate 22 walk1
      rename Fr _ _ _ _ => F3
      rename News _ _ _ _ => N3
      refine is_HDN_spec (dp := dp + 1) (un := un + 3) (by exact X.keeps F3.keep) (by exact T.keeps F3.keep) H2 (by lia) (by lia) fun h4 tk4 hs4 => ?_
      have F4 := F3.keeps hs4
      have N4 := N3.grown hs4
      clear F3 N3
      dsimp only
      iterate 6 walk1
      exact fin _ _ _ (Fr.keep (by assumption)) (by simp [h1, h2])
end Mine
end
section
theorem Mine.startSpecSmall : True := by
  w_top off
  trivial
open PySem PySem.Spec PySem.Calls PyProof.Rows PySem.W
set_option maxRecDepth 100000
set_option maxHeartbeats 4000000
namespace Mine

theorem pat_twin {w : World} {h : Heap} (X : (Mine.hd.heap_39 w.params).In h) : ∃ pat fl, PatAt h 97 96 pat fl tcodeI 1 := by
  exact ⟨_, _, ⟨_, 8, X 97 _ (by rfl), rfl, rfl, rfl⟩, _, _, X 96 _ (by rfl), rfl⟩

theorem quote_spec : ∀ {w : World} {dp un : Nat} {fr : Option (List Env)} {gd : Option (List Code)} {E : Value → Shared → Prop} {s : Shared} {p : Program} {loose : List Str} {mg mb : Str → Option Value} {Q : Value → Shared → Prop} {b : Array UInt8} {t : Tok},
    (Mine.hd.heap_39 w.params).In s.heap → TopRead p loose mg mb s.heap → b.size ≤ 2 ^ 20 → dp + 1 < recursionLimit → un + 20 < cLine →
    (∀ h' tk t', s.heap.StaysIn h' → Q (.bytes (quo true b.toList).toArray t') { s with heap := h', toks := tk }) →
    wpAny (model PySem.Challenge.rw_xe0036_01.row.prog w) (AA dp un fr gd) (call (.ref 104) [.bytes b t]) Q E s := by
  k_fill
  intro w dp un fr gd E s p loose mg mb Q b t X T hz hdp hun h
  refine call_fn (binds := [(Str.ofString "bindata", .bytes b t)]) X T (by rfl) (by kernel_rfl) (by show dp < _; lia) (by rfl) (locs rfl) fun h₁ tk E' F N => ?_
  obtain ⟨pat, fl, P0⟩ := pat_twin X
  have P := P0.keeps F.keep
  iterate 4 walk1
  refine getMethod_sub P ?_
  iterate 6 walk1
  exact call_sub P hz fun h' t' tk hk => h _ _ _ (fun b o e => hk b o (F.keep b o e))

theorem bits_le {a : Int} {k : Nat} (h0 : 0 ≤ a) (h : a < 2 ^ k) : Builtin.Int.intBits a ≤ k := by
  unfold Builtin.Int.intBits
  by_cases hz : a = 0
  · simp [hz]
  · have hb : (a == 0) = false := by simpa using hz
    rw [hb]
    simp only [Bool.false_eq_true, if_false]
    have hn : a.natAbs ≠ 0 := by lia
    have : a.natAbs < 2 ^ k := by
      have e : ((a.natAbs : Nat) : Int) = a := by lia
      have : ((a.natAbs : Nat) : Int) < ((2 ^ k : Nat) : Int) := by rw [e]; simpa using h
      exact Int.ofNat_lt.mp this
    have := (Nat.log2_lt hn).mpr this
    lia

theorem div_spec : ∀ {w : World} {dp un : Nat} {fr : Option (List Env)} {gd : Option (List Code)} {E : Value → Shared → Prop} {s : Shared} {p : Program} {loose : List Str} {mg mb : Str → Option Value} {Q : Value → Shared → Prop} {a b n : Int} {t u v : Tok},
    (Mine.hd.heap_39 w.params).In s.heap → TopRead p loose mg mb s.heap → 0 ≤ a → 0 < b → a < 2 ^ 2000 → b < 2 ^ 2000 → 0 ≤ n → dp + 1 < recursionLimit → un + 20 < cLine →
    (∀ h' tk x t1 t2, s.heap.StaysIn h' → s.heap.get? x = none → h'.get? x = some { cls := .type "tuple", data := .seq #[.int (a / b) t1, .int (a % b) t2] } → Q (.ref x) { s with heap := h', toks := tk }) →
    wpAny (model PySem.Challenge.rw_xe0036_01.row.prog w) (AA dp un fr gd) (call (.ref 64) [.int a t, .int b u, .int n v]) Q E s := by
  k_fill
  intro w dp un fr gd E s p loose mg mb Q a b n t u v X T ha hb ha2 hb2 hn hdp hun h
  refine call_fn (binds := [(Str.ofString "a", .int a t), (Str.ofString "b", .int b u), (Str.ofString "n", .int n v)]) X T (by rfl) (by kernel_rfl) (by show dp < _; lia) (by rfl) (locs rfl) fun h₁ tk E' F N => ?_
  have hbits := bits_le ha ha2
  have hb0 : b ≠ 0 := by lia
  iterate 26 walk1
  refine divmod_N F N hb0 (fun h2 F2 N2 => ?_) (Or.inl ?_)
  · have hm : (h₁.objs.size, ({ cls := .type "tuple", data := .seq #[.int (a.fdiv b) tk, .int (a.fmod b) (tk + 1)] } : Obj)) ∈ [(h₁.objs.size, ({ cls := .type "tuple", data := .seq #[.int (a.fdiv b) tk, .int (a.fmod b) (tk + 1)] } : Obj))] := .head _
    have e := (N2 _ hm)
    rw [Int.fdiv_eq_ediv_of_nonneg _ (by lia), Int.fmod_eq_emod_of_nonneg _ (by lia)] at e
    exact h _ _ _ _ _ F2.keep e.2.2 e.1
  · refine PyProof.noPylong_of_log2 ?_
    have hn : b.natAbs ≠ 0 := by lia
    have : b.natAbs < 2 ^ 2000 := by
      have e : ((b.natAbs : Nat) : Int) = b := by lia
      have : ((b.natAbs : Nat) : Int) < ((2 ^ 2000 : Nat) : Int) := by rw [e]; simpa using hb2
      exact Int.ofNat_lt.mp this
    have := (Nat.log2_lt hn).mpr this
    lia
end Mine
end
section
theorem Mine.startLoops : True := by
  w_top off
  trivial
open PySem PySem.Spec PySem.Calls PyProof.Rows PySem.W
set_option maxRecDepth 100000
namespace Mine
section
variable {M : Model} {A : Around} {α β : Type} {s : Shared} {E E' : Value → Shared → Prop}
/-- a turn's end, hidden behind a letter: the terms stay small -/
theorem turn_gen {x : Sem α} {b : Sem Flow} {P : Flow → Shared → Prop} (h : ∀ Q : Flow → Shared → Prop, (∀ s', P .next s' → Q .next s') → wpAny M A x (fun _ s₂ => wpAny M A b Q E' s₂) E s) : wpAny M A x (fun _ s₂ => wpAny M A b P E' s₂) E s := h P fun _ y => y
theorem comp_gen {x : Sem α} {P : α → Shared → Prop} (h : ∀ Q : α → Shared → Prop, (∀ y s', P y s' → Q y s') → wpAny M A x Q E s) : wpAny M A x P E s := h P fun _ _ y => y
theorem compT_gen {x : Sem Bool} {b : Sem α} {P : α → Shared → Prop} {P2 : Shared → Prop} (h : ∀ (Q : α → Shared → Prop) (Q2 : Shared → Prop), (∀ y s', P y s' → Q y s') → (∀ s', P2 s' → Q2 s') → wpAny M A x (fun c s₂ => if c = true then wpAny M A b Q E' s₂ else Q2 s₂) E s) :
    wpAny M A x (fun c s₂ => if c = true then wpAny M A b P E' s₂ else P2 s₂) E s := h P P2 (fun _ _ y => y) fun _ y => y
end

/-- the second field of a code record is a name -/
noncomputable def isNameV : Option Value → Bool
  | some (.str _ _) => true
  | _ => false
/-- no iterator (a code table has no class, a code record has a name in its second field) -/
noncomputable def notIt (o : Obj) : Bool := match o.data, o.cls with
  | .fields vs, .type _ => isNameV vs[1]?
  | _, _ => true

noncomputable def LoopEnd (h₀ : Heap) (L : Addr) (own : List (Addr × Obj)) (J : (Str → Option Value) → List (Addr × Obj) → Prop) (s₁ s₂ : Shared) : Prop :=
  ∃ h' tk m' news', s₂ = { s₁ with heap := h', toks := tk } ∧ Fr h₀ L h' m' ∧ News h₀ L h' news' ∧ (∀ p ∈ own, p ∈ news') ∧ J m' news'
noncomputable def LoopPost (h₀ : Heap) (L : Addr) (own : List (Addr × Obj)) (J : (Str → Option Value) → List (Addr × Obj) → Prop) (s₁ : Shared) (Q : Flow → Shared → Prop) (f : Flow) (s₂ : Shared) : Prop :=
  match f with
  | .ret v => Q (.ret v) s₂
  | .brk => Q .next s₂
  | _ => LoopEnd h₀ L own J s₁ s₂
theorem LoopEnd.intro {h₀ : Heap} {L : Addr} {own news' : List (Addr × Obj)} {J : (Str → Option Value) → List (Addr × Obj) → Prop} {s₁ : Shared} {h' : Heap} {tk : Nat} {m' : Str → Option Value} (F : Fr h₀ L h' m') (N : News h₀ L h' news') (ho : ∀ p ∈ own, p ∈ news') (hj : J m' news') :
    LoopEnd h₀ L own J s₁ { s₁ with heap := h', toks := tk } := ⟨h', tk, m', news', rfl, F, N, ho, hj⟩

noncomputable def MonoJ (I : Addr) (J : Nat → (Str → Option Value) → List (Addr × Obj) → Prop) : Prop := ∀ i m nw nw', J i m nw → (∀ p ∈ nw, (notIt p.2 = true ∨ p.1 ≠ I) → p ∈ nw') → J i m nw'
noncomputable abbrev keepE (I : Addr) (p : Addr × Obj) : Bool := notIt p.2 || decide (p.1 ≠ I)
theorem keepE_of {I : Addr} {p : Addr × Obj} (h : notIt p.2 = true ∨ p.1 ≠ I) : keepE I p = true := by
  rcases h with h | h <;> simp [keepE, h]

section
variable {prog : Program} {w : World} {A : Around} {s : Shared} {env : Env} {h₀ : Heap}

theorem forLoop_J {R : Result → Shared → Prop} {x : Str} {px : Pos} {body : List Stmt} {I : Addr} {fp : List Addr} {n : Nat} {P : Nat → Value → Prop} {St : Nat → Heap → Prop} {m : Str → Option Value} {news : List (Addr × Obj)}
    (W : Walks prog w A I fp [I] n P St) (hLf : env.locals ∉ fp) (hI : h₀.get? I = none) (hit : ∀ i h, St i h → ∃ o, h.get? I = some o ∧ notIt o = false)
    (hst : St 0 s.heap) (F : Fr h₀ env.locals s.heap m) (N : News h₀ env.locals s.heap news) (J : Nat → (Str → Option Value) → List (Addr × Obj) → Prop) (hJ : MonoJ I J) (h0 : J 0 m news)
    (turn : ∀ i v m₁ news₁ h tk own E', i < n → P i v → J i m₁ news₁ → (∀ p ∈ own, p.1 ∈ fp) → Fr h₀ env.locals h m₁ → News h₀ env.locals h (news₁ ++ own) →
      wpAny (model prog w) A (storeName env x v) (fun _ s₂ => wpAny (model prog w) A (execs body env) (LoopPost h₀ env.locals own (J (i + 1)) { s with heap := h, toks := tk } fun f s' => R (.ok f) s') E' s₂) E' { s with heap := h, toks := tk })
    (done : ∀ m₁ news₁ h tk, J n m₁ news₁ → Fr h₀ env.locals h m₁ → News h₀ env.locals h news₁ → R (.ok .next) { s with heap := h, toks := tk }) :
    codeAny (model prog w) A (.forLoop (.Name x px) (.ref I) body [] env) R s := by
  have hLI : env.locals ≠ I := fun h => hLf (h ▸ W.sub _ (.head _))
  refine codeAny_forLoop
    (fun k s' => ∃ h' tk m' news' i, s' = { s with heap := h', toks := tk } ∧ St i h' ∧ Fr h₀ env.locals h' m' ∧ News h₀ env.locals h' news' ∧ J i m' news' ∧ i ≤ n ∧ k = n + 1 - i) ?_ (n + 1)
    ⟨s.heap, s.toks, m, news, 0, rfl, hst, F, N, h0, Nat.zero_le _, rfl⟩
  rintro k s' ⟨h', tk, m', news', i, rfl, hst', F', N', hj, hi, rfl⟩
  obtain ⟨oI, hoI, hnI⟩ := hit _ _ hst'
  have next : ∀ h₁ : Heap, (∀ b o, b ∉ [I] → h'.get? b = some o → h₁.get? b = some o) → Fr h₀ env.locals h₁ m' ∧ News h₀ env.locals h₁ (news'.filter (keepE I)) := fun h₁ hk₁ => by
    refine ⟨⟨F'.ns.at' fun o e => hk₁ _ o (by simpa using hLI) e, fun b o e => hk₁ b o (fun hb => by rw [List.mem_singleton.mp hb, hI] at e; cases e) (F'.keep b o e), F'.above⟩, fun p hp => ?_⟩
    obtain ⟨hp1, hp2⟩ := List.mem_filter.mp hp
    refine ⟨hk₁ _ _ (fun hb => ?_) (N' p hp1).1, (N' p hp1).2⟩
    have e := (N' p hp1).1
    have hbI := List.mem_singleton.mp hb
    rw [hbI, hoI] at e
    cases e
    rw [keepE, hnI] at hp2
    simp [hbI] at hp2
  have hj' : J i m' (news'.filter (keepE I)) := hJ _ _ _ _ hj fun p hp hn => List.mem_filter.mpr ⟨hp, keepE_of hn⟩
  by_cases hlt : i < n
  · refine W.item i _ _ _ hlt hst' fun v h₁ tk₁ hP hst₁ hk₁ => ?_
    obtain ⟨F₁, N₁⟩ := next h₁ hk₁
    refine wpAny_assign_Name ?_
    have Nown : News h₀ env.locals h₁ (ownOf h₀ fp h₁) := news_ownOf hLf
    have hmem : ∀ p ∈ ownOf h₀ fp h₁, p.1 ∈ fp := ownOf_sub
    refine wpAny_mono (turn i v m' (news'.filter (keepE I)) h₁ tk₁ (ownOf h₀ fp h₁) _ hlt hP hj' hmem F₁ (N₁.append Nown)) (fun _ s₂ h₂ => ?_) fun _ _ e => e
    refine wpAny_mono h₂ (fun f s₃ h₃ => ?_) fun _ _ e => e
    have fin : LoopEnd h₀ env.locals (ownOf h₀ fp h₁) (J (i + 1)) { s with heap := h₁, toks := tk₁ } s₃ → ∃ m_1, m_1 < n + 1 - i ∧ ∃ h' tk m' news' i, s₃ = { s with heap := h', toks := tk } ∧ St i h' ∧ Fr h₀ env.locals h' m' ∧ News h₀ env.locals h' news' ∧ J i m' news' ∧ i ≤ n ∧ m_1 = n + 1 - i := by
      rintro ⟨h₃', tk₃, m₂, news₂, rfl, F₃, N₃, ho₃, hJ₃⟩
      refine ⟨n + 1 - (i + 1), by lia, h₃', tk₃, m₂, news₂, i + 1, rfl, ?_, F₃, N₃, hJ₃, hlt, rfl⟩
      refine W.frame _ _ _ hst₁ fun b hb o e => ?_
      cases hn : h₀.get? b with
      | some o₀ =>
        have : o₀ = o := by have := F₁.keep b o₀ hn; rw [e] at this; exact (Option.some.inj this).symm
        exact this ▸ F₃.keep b o₀ hn
      | none => exact (N₃ _ (ho₃ _ (mem_ownOf hb hn e))).1
    cases f with
    | ret v => exact h₃
    | brk => exact h₃
    | next => exact fin h₃
    | cont => exact fin h₃
  · have hin : i = n := by lia
    subst hin
    refine W.done _ _ _ hst' fun h₁ tk₁ hk₁ => wpAny_execs_nil ?_
    obtain ⟨F₁, N₁⟩ := next h₁ hk₁
    exact done m' _ h₁ tk₁ hj' F₁ N₁
end
end Mine
namespace Mine
section
variable {prog : Program} {w : World} {A : Around} {s : Shared} {env : Env} {h₀ : Heap} {E : Value → Shared → Prop}

theorem next_new {L : Addr} {h : Heap} {m : Str → Option Value} (F : Fr h₀ L h m) : h₀.get? h.objs.size = none := by
  cases hq : h₀.get? h.objs.size with
  | none => rfl
  | some o' => exact absurd (Heap.lt_size (F.keep _ _ hq)) (Nat.lt_irrefl _)

/-- a for over a list that stays -/
theorem iterList_J {R : Result → Shared → Prop} {x : Str} {px : Pos} {body : List Stmt} {l : Addr} {vs : List Value} {m : Str → Option Value} {news : List (Addr × Obj)}
    (hh : A.handled = none) (hl : s.heap.IsList l vs.toArray) (hlL : l ≠ env.locals) (F : Fr h₀ env.locals s.heap m) (N : News h₀ env.locals s.heap news) (J : Nat → (Str → Option Value) → List (Addr × Obj) → Prop) (hJ : MonoJ s.heap.objs.size J) (h0 : J 0 m news)
    (turn : ∀ i v m₁ news₁ h tk own E', vs[i]? = some v → J i m₁ news₁ → (∀ p ∈ own, p.1 = s.heap.objs.size ∨ p.1 = l) → Fr h₀ env.locals h m₁ → News h₀ env.locals h (news₁ ++ own) →
      wpAny (model prog w) A (storeName env x v) (fun _ s₂ => wpAny (model prog w) A (execs body env) (LoopPost h₀ env.locals own (J (i + 1)) { s with heap := h, toks := tk } fun f s' => R (.ok f) s') E' s₂) E' { s with heap := h, toks := tk })
    (done : ∀ m₁ news₁ h tk, J vs.length m₁ news₁ → Fr h₀ env.locals h m₁ → News h₀ env.locals h news₁ → R (.ok .next) { s with heap := h, toks := tk }) :
    wpAny (model prog w) A (pyIter (.ref l)) (fun it s₂ => codeAny (model prog w) A (.forLoop (.Name x px) it body [] env) R s₂) E s := by
  refine wpAny_pyIter_list hl ?_
  have hne : l ≠ s.heap.objs.size := by obtain ⟨o, ho, _⟩ := hl; exact Nat.ne_of_lt (Heap.lt_size ho)
  have W := Walks.list (prog := prog) (w := w) hh s.heap.objs.size l hne vs.toArray
  refine forLoop_J W ?_ (next_new F) ?_ ⟨⟨_, Heap.get?_push_size _ rfl, rfl, rfl⟩, hl.push _⟩ (F.push _) (fun p hp => ⟨Heap.get?_push_of_some _ (N p hp).1, (N p hp).2⟩) J hJ h0 ?_ ?_
  · intro hm
    rcases List.mem_cons.mp hm with e | hm
    · exact absurd F.ns.lt (e ▸ Nat.lt_irrefl _)
    · exact hlL (List.mem_singleton.mp hm).symm
  · rintro i h ⟨⟨o, e, hc, hd⟩, _⟩
    exact ⟨o, e, by simp [notIt, hd, hc, isNameV, rawInt]⟩
  · intro i v m₁ news₁ h tk own E' hi hP hj ho F₁ N₁
    exact turn i v m₁ news₁ h tk own E' (by simpa using hP) hj (fun p hp => by have := ho p hp; simpa using this) F₁ N₁
  · intro m₁ news₁ h tk hj
    exact done m₁ news₁ h tk (by simpa using hj)

/-- a for over a range -/
theorem iterRange_J {R : Result → Shared → Prop} {x : Str} {px : Pos} {body : List Stmt} {r : Addr} {a b c : Int} {t u v : Tok} {n : Nat} {m : Str → Option Value} {news : List (Addr × Obj)}
    (hh : A.handled = none) (hr : IsRange s.heap r a b c t u v) (hsm : Builtin.Range.small a b c = true) (hn : Builtin.Range.rangeSize a b c = (n : Int)) (F : Fr h₀ env.locals s.heap m) (N : News h₀ env.locals s.heap news) (J : Nat → (Str → Option Value) → List (Addr × Obj) → Prop) (hJ : MonoJ s.heap.objs.size J) (h0 : J 0 m news)
    (turn : ∀ i tv m₁ news₁ h tk own E', i < n → J i m₁ news₁ → (∀ p ∈ own, p.1 = s.heap.objs.size) → Fr h₀ env.locals h m₁ → News h₀ env.locals h (news₁ ++ own) →
      wpAny (model prog w) A (storeName env x (.int (a + (i : Int) * c) tv)) (fun _ s₂ => wpAny (model prog w) A (execs body env) (LoopPost h₀ env.locals own (J (i + 1)) { s with heap := h, toks := tk } fun f s' => R (.ok f) s') E' s₂) E' { s with heap := h, toks := tk })
    (done : ∀ m₁ news₁ h tk, J n m₁ news₁ → Fr h₀ env.locals h m₁ → News h₀ env.locals h news₁ → R (.ok .next) { s with heap := h, toks := tk }) :
    wpAny (model prog w) A (pyIter (.ref r)) (fun it s₂ => codeAny (model prog w) A (.forLoop (.Name x px) it body [] env) R s₂) E s := by
  refine wpAny_pyIter_range hr hsm ?_
  have W := Walks.range (prog := prog) (w := w) hh s.heap.objs.size a c n
  refine forLoop_J W ?_ (next_new F) ?_ ?_ (F.push _) (fun p hp => ⟨Heap.get?_push_of_some _ (N p hp).1, (N p hp).2⟩) J hJ h0 ?_ done
  · intro hm
    exact absurd F.ns.lt ((List.mem_singleton.mp hm) ▸ Nat.lt_irrefl _)
  · intro i h hI
    exact ⟨_, hI, rfl⟩
  · show IsRangeIter _ _ _ _ _
    rw [hn]
    simpa using Heap.get?_push_size _ rfl
  · rintro i v m₁ news₁ h tk own E' hi ⟨tv, rfl⟩ hj ho F₁ N₁
    exact turn i tv m₁ news₁ h tk own E' hi hj (fun p hp => by have := ho p hp; simpa using this) F₁ N₁
end
end Mine
namespace Mine
section
variable {prog : Program} {w : World} {A : Around} {s : Shared} {env : Env} {h₀ : Heap} {E : Value → Shared → Prop}
/-- a for over reversed(list) -/
theorem iterRev_J {R : Result → Shared → Prop} {x : Str} {px : Pos} {body : List Stmt} {I l : Addr} {vs : List Value} {m : Str → Option Value} {news : List (Addr × Obj)}
    (hh : A.handled = none) (hI : h₀.get? I = none) (hIL : I ≠ env.locals) (hit : s.heap.IsRevIter I l ((vs.length : Int) - 1)) (hl : s.heap.IsList l vs.toArray) (hlL : l ≠ env.locals) (F : Fr h₀ env.locals s.heap m) (N : News h₀ env.locals s.heap news) (J : Nat → (Str → Option Value) → List (Addr × Obj) → Prop) (hJ : MonoJ I J) (h0 : J 0 m news)
    (turn : ∀ i v m₁ news₁ h tk own E', vs.reverse[i]? = some v → J i m₁ news₁ → (∀ p ∈ own, p.1 = I ∨ p.1 = l) → Fr h₀ env.locals h m₁ → News h₀ env.locals h (news₁ ++ own) →
      wpAny (model prog w) A (storeName env x v) (fun _ s₂ => wpAny (model prog w) A (execs body env) (LoopPost h₀ env.locals own (J (i + 1)) { s with heap := h, toks := tk } fun f s' => R (.ok f) s') E' s₂) E' { s with heap := h, toks := tk })
    (done : ∀ m₁ news₁ h tk, J vs.length m₁ news₁ → Fr h₀ env.locals h m₁ → News h₀ env.locals h news₁ → R (.ok .next) { s with heap := h, toks := tk }) :
    wpAny (model prog w) A (pyIter (.ref I)) (fun it s₂ => codeAny (model prog w) A (.forLoop (.Name x px) it body [] env) R s₂) E s := by
  refine wpAny_pyIter_revIter hit ?_
  have hne : l ≠ I := by
    rintro rfl
    obtain ⟨o, ho, hc, _⟩ := hl
    obtain ⟨o', ho', hc', _⟩ := hit
    rw [ho] at ho'; cases ho'; rw [hc] at hc'; simp at hc'
  have W := Walks.listRev (prog := prog) (w := w) hh I l hne vs.toArray
  refine forLoop_J W ?_ hI ?_ ⟨Nat.zero_le _, by simpa using hit, hl⟩ F N J hJ h0 ?_ ?_
  · intro hm
    rcases List.mem_cons.mp hm with e | hm
    · exact hIL e.symm
    · exact hlL (List.mem_singleton.mp hm).symm
  · rintro i h ⟨_, ⟨o, e, hc, hd⟩, _⟩
    exact ⟨o, e, by simp [notIt, hd, hc, isNameV, rawInt]⟩
  · intro i v m₁ news₁ h tk own E' hi hP hj ho F₁ N₁
    refine turn i v m₁ news₁ h tk own E' ?_ hj (fun p hp => by have := ho p hp; simpa using this) F₁ N₁
    have hi' : i < vs.length := by simpa using hi
    rw [List.getElem?_reverse hi']
    simpa using hP
  · intro m₁ news₁ h tk hj
    exact done m₁ news₁ h tk (by simpa using hj)
end
end Mine
end
section
theorem Mine.startSpecD2I : True := by
  w_top off
  trivial
open PySem PySem.Spec PySem.Calls PyProof.Rows PySem.W
set_option maxRecDepth 100000
set_option maxHeartbeats 4000000
namespace Mine

/-- a code table: empty, or holding the one code object of the def that the body makes -/
noncomputable def TabSt (h : Heap) (P : Addr) (ps : Array Value) (line col : Nat) (qual : Str) : Prop :=
  h.get? P = some (tabObj ps) ∧ (ps = #[] ∨ ∃ c, ps = #[rawInt line, rawInt col, .ref c] ∧ c ≠ P ∧ h.CodeRec (.ref c) qual)

/-- after the def: the table holds the code c -/
noncomputable def TabFull (h : Heap) (P c : Addr) (line col : Nat) (qual : Str) : Prop :=
  h.get? P = some (tabObj #[rawInt line, rawInt col, .ref c]) ∧ c ≠ P ∧ h.CodeRec (.ref c) qual
/-- the code is new, or the one that the table held -/
noncomputable def TabOld (h : Heap) (ps : Array Value) (c : Addr) (line col : Nat) : Prop := ps = #[] ∧ h.get? c = none ∨ ps = #[rawInt line, rawInt col, .ref c]

theorem TabOld.unhide {h h₀ : Heap} {ps : Array Value} {c P : Addr} {line col : Nat} (x : TabOld h₀ ps c line col) (hc : c ≠ P) (hk : ∀ b o, b ≠ P → h.get? b = some o → h₀.get? b = some o) : TabOld h ps c line col := by
  rcases x with ⟨e, n⟩ | e
  · refine .inl ⟨e, ?_⟩
    cases q : h.get? c with
    | none => rfl
    | some o => rw [hk _ _ hc q] at n; cases n
  · exact .inr e

theorem nest_store {M : Model} {A : Around} {E : Value → Shared → Prop} {s : Shared} {h₀ : Heap} {L : Addr} {m mg mb : Str → Option Value} {r : List (Addr × Obj)} {p : Program} {loose : List Str} {mean : ExcName → Option Value} {c P cI : Addr} {oI : Obj} {v₀ : Option Value} {ccd : Value} {ps : Array Value} {cn : Str} {cs : Scope} {a : Addr} {cl clos : List (Str × Addr)} {name qual : Str} {params : Arguments} {body : List Stmt} {scope : Scope} {pos : Pos} {firstLine : Nat} {Q : Unit → Shared → Prop}
    (F : Fr h₀ L s.heap m) (N : News h₀ L s.heap ((P, tabObj ps) :: (cI, oI) :: r)) (T : Top p loose mean mg mb h₀) (C : CodeHd h₀ c P) (hcd : ccd = .ref c) (hr : ∀ q ∈ (cI, oI) :: r, q.1 ≠ P) (hr' : ∀ q ∈ r, q.1 ≠ cI)
    (hps : ps = #[] ∨ ∃ c', ps = #[rawInt pos.line, rawInt pos.col, .ref c'] ∧ c' ≠ P ∧ h₀.CodeRec (.ref c') qual)
    (hcl : closureFor scope (envX cn cs L a ccd cl) = pure clos) (hc : cl.lookup name = some cI) (hd : oI.data = .cell v₀)
    (hk : cs.kind = .function) (hx : (envX cn cs L a ccd cl).kindOf name = some .cell)
    (h : ∀ f c' ctv doc h' oI' tk, Fr h₀ L h' m →
      News h₀ L h' ((f, fnMade name qual params body scope clos doc ((mg "__name__").getD .none) c' ctv) :: (P, tabObj (#[rawInt pos.line, rawInt pos.col, .ref c'])) :: (cI, oI') :: r) →
      oI'.data = .cell (some (.ref f)) → h'.CodeRec (.ref c') qual → c' ≠ P → TabOld h₀ ps c' pos.line pos.col → Q () { s with heap := h', toks := tk }) :
    wpAny M A (makeFunction name qual params (.stmts body) scope (envX cn cs L a ccd cl) [] [] [] pos firstLine) (fun v s' => wpAny M A (storeName (envX cn cs L a ccd cl) name v) Q E s') E s := by
  have hPI : P ≠ cI := fun q => hr _ (.head _) q.symm
  rcases hps with rfl | ⟨c', rfl, hne, hc'⟩
  · refine nest_K F N T C hcd (.head hr) trivial rfl hcl fun f c' oc vs t ctv doc h' tk F' N' hod hv l1 l2 => ?_
    have hl := l1 _ (.tail _ (.head _))
    have hlP := l1 _ (.head _)
    dsimp only at hl hlP
    refine storeX_C F' N' hc (.tail (Nat.ne_of_gt (Nat.lt_trans hl l2)) (.tail (Nat.ne_of_gt hl) (.tail hPI (.head hr')))) hd (fun h₃ o₃ F₃ N₃ hd₃ => ?_) hk hx
    refine h f c' ctv doc h₃ o₃ tk F₃ (fun q hq => ?_) hd₃ (codeRec_news N₃ (.tail _ (.head _)) hod hv) (Nat.ne_of_gt hlP) (.inl ⟨rfl, (N₃ _ (.tail _ (.head _))).2.2⟩)
    rcases List.mem_cons.mp hq with rfl | hq
    · exact N₃ _ (.head _)
    · exact N₃ _ (.tail _ (.tail _ hq))
  · refine nestHit_K (c' := c') F N T C hcd (.head _) (by simp [TriplesOk, rawInt]) (by simp [codeAmong, rawInt]) hcl fun f ctv doc h' tk F' N' l1 => ?_
    have hl := l1 _ (.tail _ (.head _))
    have hlP := l1 _ (.head _)
    dsimp only at hl hlP
    refine storeX_C F' N' hc (.tail (Nat.ne_of_gt hl) (.tail hPI (.head hr'))) hd (fun h₃ o₃ F₃ N₃ hd₃ => ?_) hk hx
    exact h f c' ctv doc h₃ o₃ tk F₃ N₃ hd₃ (hc'.keeps F₃.keep) hne (.inr rfl)

theorem news_sub {h₀ h : Heap} {L : Addr} {a b : List (Addr × Obj)} (N : News h₀ L h a) (k : ∀ p ∈ b, p ∈ a) : News h₀ L h b := fun p hp => N p (k p hp)

theorem news_front4 {h₀ h : Heap} {L : Addr} {a b c d : Addr × Obj} (N : News h₀ L h [a, b, c, d]) : News h₀ L h [d, a, b, c] := fun p hp => N p (by simp at hp ⊢; rcases hp with h | h | h | h <;> simp [h])

/-- digits read with base 2^n, the lowest first -/
noncomputable def hv (n : Nat) : List Int → Int
  | [] => 0
  | x :: r => x + 2 ^ n * hv n r
theorem hv_append (n : Nat) : ∀ a b : List Int, hv n (a ++ b) = hv n a + 2 ^ (n * a.length) * hv n b
  | [], b => by simp [hv]
  | x :: a, b => by
    rw [List.cons_append, hv, hv, hv_append n a b, List.length_cons, Nat.mul_add, Int.mul_add, Nat.mul_one, Nat.add_comm (n * a.length) n, Int.pow_add, Int.mul_assoc]
    lia

theorem stays_of_led {h h' : Heap} {led : List (Addr × Obj)} {L : Addr} {m : Str → Option Value} (F : Fr (hideAll h (led.map (·.1))) L h' m) (N : News (hideAll h (led.map (·.1))) L h' led) (hl : ∀ p ∈ led, h.get? p.1 = some p.2) : ∀ b o, h.get? b = some o → h'.get? b = some o := fun b o e => by
  by_cases hb : b ∈ led.map (·.1)
  · obtain ⟨p, hp, rfl⟩ := List.mem_map.mp hb
    rw [hl p hp] at e
    cases e
    exact (N p hp).1
  · exact F.keep _ _ (hideAll_get _ e hb)

theorem hide_led_list {h₀ h : Heap} {led : List (Addr × Obj)} {d : Addr} {its : Array Value} (hd : h₀.IsList d its) (hk : ∀ b o, h₀.get? b = some o → h.get? b = some o) (hn : ∀ p ∈ led, h₀.get? p.1 = none) : (hideAll h (led.map (·.1))).IsList d its := by
  obtain ⟨o, e, r⟩ := hd
  refine ⟨o, hideAll_get _ (hk _ _ e) (fun q => ?_), r⟩
  obtain ⟨p, hp, rfl⟩ := List.mem_map.mp q
  rw [hn p hp] at e; cases e

theorem mid_eq (l r : Nat) : ((l : Int) + r).fdiv (2 ^ (Int.toNat 1)) = (((l + r) / 2 : Nat) : Int) := by
  rw [show (2 : Int) ^ (Int.toNat 1) = 2 from rfl, Int.fdiv_eq_ediv_of_nonneg _ (by decide)]
  lia

noncomputable def part (ns : List Int) (L R : Nat) : List Int := (ns.drop L).take (R - L)
theorem part_split {ns : List Int} {L M R : Nat} (h1 : L ≤ M) (h2 : M ≤ R) : part ns L R = part ns L M ++ part ns M R := by
  unfold part
  rw [show R - L = (M - L) + (R - M) from by lia, List.take_add, List.drop_drop, show L + (M - L) = M from by lia]
theorem part_length {ns : List Int} {L R : Nat} (h : R ≤ ns.length) : (part ns L R).length = R - L := by
  unfold part
  rw [List.length_take, List.length_drop]
  lia

theorem hv_bounds {n : Nat} (hn : n ≤ 200) : ∀ {ns : List Int}, (∀ x ∈ ns, 0 ≤ x ∧ x < 2 ^ 200) → 0 ≤ hv n ns ∧ hv n ns < 2 ^ (200 * ns.length)
  | [], _ => by simp [hv]
  | x :: r, h => by
    have ⟨h1, h2⟩ := hv_bounds hn (fun y hy => h y (.tail _ hy))
    have ⟨h3, h4⟩ := h x (.head _)
    have hp : (0 : Int) < 2 ^ n := Int.pow_pos (by decide)
    have hp2 : (2 : Int) ^ n ≤ 2 ^ 200 := by
      have := Nat.pow_le_pow_right (show 0 < 2 by decide) hn
      exact_mod_cast this
    refine ⟨?_, ?_⟩
    · have := Int.mul_nonneg (Int.le_of_lt hp) h1
      simp only [hv]; lia
    · have e1 : (2 : Int) ^ n * hv n r ≤ 2 ^ 200 * hv n r := Int.mul_le_mul_of_nonneg_right hp2 h1
      have e2 : (2 : Int) ^ 200 * (hv n r + 1) ≤ 2 ^ 200 * 2 ^ (200 * r.length) := Int.mul_le_mul_of_nonneg_left (by lia) (Int.pow_nonneg (by decide))
      rw [List.length_cons, Nat.mul_add, Nat.mul_one, Nat.add_comm, Int.pow_add]
      rw [Int.mul_add, Int.mul_one] at e2
      simp only [hv]
      generalize (2 : Int) ^ n * hv n r = A at *
      generalize (2 : Int) ^ 200 * hv n r = B at *
      generalize (2 : Int) ^ 200 * 2 ^ (200 * r.length) = C at *
      lia
theorem mem_part {ns : List Int} {l r : Nat} {x : Int} (h : x ∈ part ns l r) : x ∈ ns := List.mem_of_mem_drop (List.mem_of_mem_take h)
theorem hv_part {n : Nat} {ns : List Int} {l r : Nat} (hn : n ≤ 200) (h : ∀ x ∈ ns, 0 ≤ x ∧ x < 2 ^ 200) (hr : r ≤ ns.length) (hl : ns.length ≤ 16) : 0 ≤ hv n (part ns l r) ∧ Builtin.Int.intBits (hv n (part ns l r)) ≤ 3200 := by
  have ⟨h1, h2⟩ := hv_bounds hn (ns := part ns l r) (fun x hx => h x (mem_part hx))
  refine ⟨h1, ?_⟩
  have := bits_le h1 h2
  rw [part_length hr] at this
  lia

theorem d2i_spec : ∀ {w : World} {dp un : Nat} {fr : Option (List Env)} {gd : Option (List Code)} {E : Value → Shared → Prop} {s : Shared} {g : Heap} {p : Program} {loose : List Str} {mean : ExcName → Option Value} {mg mb : Str → Option Value} {Q : Value → Shared → Prop} {d : Addr} {vs : List Value} {ns : List Int} {n : Int} {u : Tok} {ps : Array Value},
    (Mine.hd.heap_39 w.params).In g → Top p loose mean mg mb g → g.StaysIn s.heap → g.get? 80 = none → TabSt s.heap 80 ps 81 4 (Str.ofString "_digits2int.<locals>.inner") →
    s.heap.IsList d vs.toArray → IntsAre vs ns → (∀ x ∈ ns, 0 ≤ x ∧ x < 2 ^ 200) → ns.length ≤ 16 → 0 < n → n ≤ 200 → dp + 40 < recursionLimit → un + 1000 < cLine →
    (∀ h' tk t' c', (∀ b o, b ≠ 80 → s.heap.get? b = some o → h'.get? b = some o) → TabFull h' 80 c' 81 4 (Str.ofString "_digits2int.<locals>.inner") → TabOld s.heap ps c' 81 4 → Q (.int (hv n.toNat ns) t') { s with heap := h', toks := tk }) →
    wpAny (model PySem.Challenge.rw_xe0036_01.row.prog w) (AA dp un fr gd) (call (.ref 85) [.ref d, .int n u]) Q E s := by
  k_fill
  intro w dp un fr gd E s g p loose mean mg mb Q d vs ns n u ps X T hg hP hTab hd hI hns hlen hn0 hn1 hdp hun h
  have hK80 : ∀ b o, b ≠ 80 → s.heap.get? b = some o → (hideAll s.heap ([(80, tabObj ps)].map (·.1))).get? b = some o := fun b o hb e => hideAll_get _ e (fun q => hb (List.mem_singleton.mp q))
  have hg80 : ∀ b o, g.get? b = some o → (hideAll s.heap ([(80, tabObj ps)].map (·.1))).get? b = some o := fun b o e => hK80 b o (fun q => by rw [q, hP] at e; cases e) (hg b o e)
  refine call_fnC (binds := [(Str.ofString "digits", .ref d), (Str.ofString "n", .int n u)]) [(80, tabObj ps)] (fun p hp => by rw [List.mem_singleton.mp hp]; exact hTab.1) (T.nolimit.keeps hg) (hg _ _ (X 85 _ (by rfl))) (by rfl) (codeRec_of (X.keeps hg) (by kernel_rfl)) (by show dp < _; lia) (by rfl) (by rfl) (by decide) fun h₁ tk cells E' F N Y => ?_
  have X0 := X.keeps hg80
  have T0 := T.keeps hg80
  have C0 : CodeHd (hideAll s.heap ([(80, tabObj ps)].map (·.1))) 84 80 := codeHd_of_K X0 (by kernel_rfl)
  have hps : ps = #[] ∨ ∃ c', ps = #[rawInt (81 : Nat), rawInt (4 : Nat), .ref c'] ∧ c' ≠ 80 ∧ (hideAll s.heap ([(80, tabObj ps)].map (·.1))).CodeRec (.ref c') (Str.ofString "_digits2int.<locals>.inner") := by
    rcases hTab.2 with e | ⟨c, e1, e2, e3⟩
    · exact .inl e
    · refine .inr ⟨c, e1, e2, ?_⟩
      obtain ⟨cc, oc, vs, t, q0, q1, q2, q3⟩ := e3
      cases q0
      exact ⟨c, oc, vs, t, rfl, hK80 _ _ e2 q1, q2, q3⟩
  have hdl : (hideAll s.heap ([(80, tabObj ps)].map (·.1))).IsList d vs.toArray := by
    obtain ⟨o, e, hc, r⟩ := hd
    exact ⟨o, hK80 _ _ (fun q => by rw [q, hTab.1] at e; cases e; cases hc) e, hc, r⟩
  have hL80 : 80 < s.heap.objs.size := Heap.lt_size hTab.1
  k_cells Y
  dsimp only [List.map_cons, List.map_nil, List.cons_append, List.nil_append] at N F X0 T0 C0 hps hdl
  have N' := news_front4 N
  refine wpAny_execs_cons ?_
  refine nestDef_K rfl rfl rfl ?_
  refine nest_store F N' T0 C0 rfl ?hr ?hr2 hps rfl rfl (by assumption) rfl rfl fun f c' ctv doc h₃ oI tk₃ F3 N3 dI hc3 hcP hold => ?_
  case hr => intro q hq; simp at hq; rcases hq with rfl | rfl | rfl <;> simp <;> lia
  case hr2 => intro q hq; simp at hq; rcases hq with rfl | rfl <;> simp <;> lia
  clear N N' F
  dsimp only
  have hin : ∀ (k : Nat) (L R : Int) (l r : Nat) (tL tR : Tok) (dp' un' : Nat) (fr' : Option (List Env)) (gd' : Option (List Code)) (E₁ : Value → Shared → Prop) (s' : Shared) (Q' : Value → Shared → Prop),
      L = l → R = r → r ≤ l + k → l < r → r ≤ ns.length → h₃.StaysIn s'.heap → dp' + k + 5 < recursionLimit → un' + 20 * k + 50 < cLine →
      (∀ h' tk t, s'.heap.StaysIn h' → Q' (.int (hv n.toNat (part ns l r)) t) { s' with heap := h', toks := tk }) →
      wpAny (model PySem.Challenge.rw_xe0036_01.row.prog w) (AA dp' un' fr' gd') (call (.ref f) [.int L tL, .int R tR]) Q' E₁ s' := by
    intro k
    induction k with
    | zero => intro L R l r _ _ _ _ _ _ _ _ _ _ _ h1 h2; lia
    | succ k ih =>
      rintro L R l r tL tR dp' un' fr' gd' E₁ s' Q' rfl rfl hk hLR hR hst hdp' hun' hq
      refine call_fnN (binds := [(Str.ofString "L", .int l tL), (Str.ofString "R", .int r tR)]) _ (fun p hp => hst _ _ (N3 p hp).1) ((T0.nolimit.keeps F3.keep).keeps hst) (hst _ _ (N3 _ (.head _)).1) (by rfl) (hc3.keeps hst) (by show dp' < _; lia) (by rfl) (locs rfl) fun h₄ tk₄ E₄ F4 N4 => ?_
      have HS := fun p hp => hst _ _ (N3 p hp).1
      have hd4 : Heap.IsList (hideAll s'.heap _) d vs.toArray := hide_led_list hdl (fun b o e => hst _ _ (F3.keep b o e)) (fun p hp => (N3 p hp).2.2)
      have hend : ∀ h' m, Fr (hideAll s'.heap _) s'.heap.objs.size h' m → News (hideAll s'.heap _) s'.heap.objs.size h' _ → Heap.StaysIn s'.heap h' := fun h' m F N => stays_of_led F N HS
      generalize hideAll s'.heap _ = g4 at F4 N4 hd4 hend
      clear HS
      have hb1 : (l : Int) ≤ 16 := by lia
      have hb2 : (r : Int) ≤ 16 := by lia
      by_cases h1 : l + 1 = r
      · subst h1
        iterate 10 walk1
        refine ite_pos (by simp) ?_
        iterate 6 walk1
        walk1
        have e : ns.getD (l : Int).toNat 0 = hv n.toNat (part ns l (l + 1)) := by
          unfold part
          rw [show l + 1 - l = 1 from by lia, List.drop_eq_getElem_cons (show l < ns.length from hR), List.take_succ_cons, List.take_zero, hv, hv, Int.toNat_natCast, List.getD_eq_getElem?_getD, List.getElem?_eq_getElem (show l < ns.length from hR), Option.getD_some]
          simp
        rw [e]
        exact hq _ _ _ (hend _ _ F4 N4)
      iterate 10 walk1
      refine ite_neg (by simp; lia) ?_
      iterate 26 walk1
      iterate 8 walk1
      rename Fr _ _ _ _ => F5
      rename News _ _ _ _ => N5
      have hs5 : Heap.StaysIn h₃ _ := fun b o e => hend _ _ F5 N5 b o (hst b o e)
      refine ⟨FnAt.of N5 (.head _), ?_⟩
      refine ih _ _ ((l + r) / 2) r _ _ (dp' + 1) (un' + 3) _ _ _ _ _ (mid_eq l r) rfl ?a1 ?a2 hR ?a5 ?a3 ?a4 fun h₅ tk₅ t₅ hs₅ => ?_
      case a5 => exact hs5
      case a1 => lia
      case a2 => lia
      case a3 => lia
      case a4 => lia
      have F6 := F5.keeps hs₅
      have N6 := N5.grown hs₅
      clear F5 N5
      dsimp only
      rw [mid_eq l r] at F6
      have hM1 : ((((l + r) / 2 : Nat) : Int) - l) = (((l + r) / 2 - l : Nat) : Int) := by lia
      rw [hM1] at F6
      have hs0 : 0 ≤ (((l + r) / 2 - l : Nat) : Int) * n := Int.mul_nonneg (by lia) (by lia)
      have hs1 : (((l + r) / 2 - l : Nat) : Int) * n ≤ 3200 := by
        have := Int.mul_le_mul (show (((l + r) / 2 - l : Nat) : Int) ≤ 16 by lia) hn1 (by lia) (by lia)
        lia
      have ⟨hq0, hq1⟩ := hv_part (n := n.toNat) (l := (l + r) / 2) (r := r) (by lia) hns hR hlen
      walk1
      refine lshift_int hs0 (by lia) ?_
      iterate 8 walk1
      rename Fr _ _ _ _ => F7
      rename News _ _ _ _ => N7
      have hs7 : Heap.StaysIn h₃ _ := fun b o e => hend _ _ F7 N7 b o (hst b o e)
      refine ⟨FnAt.of N7 (.head _), ?_⟩
      refine ih _ _ l ((l + r) / 2) _ _ (dp' + 1) (un' + 3) _ _ _ _ _ rfl rfl ?a1 ?a2 (by lia) ?a5 ?a3 ?a4 fun h₈ tk₈ t₈ hs₈ => ?_
      case a5 => exact hs7
      case a1 => lia
      case a2 => lia
      case a3 => lia
      case a4 => lia
      have F8 := F7.keeps hs₈
      have N8 := N7.grown hs₈
      clear F7 N7
      dsimp only
      walk1
      have e : hv n.toNat (part ns ((l + r) / 2) r) * 2 ^ ((((l + r) / 2 - l : Nat) : Int) * n).toNat + hv n.toNat (part ns l ((l + r) / 2)) = hv n.toNat (part ns l r) := by
        rw [part_split (show l ≤ (l + r) / 2 by lia) (show (l + r) / 2 ≤ r by lia), hv_append, part_length (by lia), Int.mul_comm (hv _ _), Int.add_comm]
        congr 3
        have : (((n.toNat * ((l + r) / 2 - l) : Nat)) : Int) = (((l + r) / 2 - l : Nat) : Int) * n := by
          rw [Int.natCast_mul, Int.toNat_of_nonneg (by lia), Int.mul_comm]
        lia
      rw [e]
      exact hq _ _ _ (hend _ _ F8 N8)
  iterate 6 walk1
  have hfin : ∀ h' : Heap, h₃.StaysIn h' → (∀ b o, b ≠ 80 → s.heap.get? b = some o → h'.get? b = some o) ∧ TabFull h' 80 c' 81 4 (Str.ofString "_digits2int.<locals>.inner") ∧ TabOld s.heap ps c' 81 4 := fun h' hs =>
    ⟨fun b o hb e => hs _ _ (F3.keep _ _ (hK80 b o hb e)), ⟨hs _ _ (N3 _ (.tail _ (.head _))).1, hcP, hc3.keeps hs⟩, hold.unhide hcP hK80⟩
  by_cases hz : 0 < ns.length
  · refine ite_pos (by simpa using hz) ?_
    iterate 8 walk1
    iterate 6 walk1
    refine ⟨FnAt.of N3 (.head _), ?_⟩
    refine hin ns.length _ _ 0 ns.length _ _ (dp + 1) (un + 3) _ _ _ _ _ rfl rfl ?a1 ?a2 (Nat.le_refl _) ?a5 ?a3 ?a4 fun h₈ tk₈ t₈ hs₈ => ?_
    case a5 => exact fun b o e => e
    case a1 => lia
    case a2 => lia
    case a3 => lia
    case a4 => lia
    have ⟨q1, q2, q3⟩ := hfin _ hs₈
    have e : part ns 0 ns.length = ns := by simp [part]
    rw [e]
    exact h _ _ _ _ q1 q2 q3
  · refine ite_neg (by simpa using hz) ?_
    walk1
    have hz' : ns = [] := List.eq_nil_of_length_eq_zero (by lia)
    have ⟨q1, q2, q3⟩ := hfin _ (fun b o e => e)
    subst hz'
    exact h _ _ _ _ q1 q2 q3
end Mine
end
section
theorem Mine.startSpecI2D : True := by
  w_top off
  trivial
open PySem PySem.Spec PySem.Calls PyProof.Rows PySem.W
set_option maxRecDepth 100000
set_option maxHeartbeats 4000000
namespace Mine

theorem xor_low (x k : Nat) : Builtin.bitXor (x : Int) ((x : Int).fdiv (2 ^ k) * 2 ^ k) = ((x % 2 ^ k : Nat) : Int) := by
  have e1 : (x : Int).fdiv (2 ^ k) * 2 ^ k = ((x / 2 ^ k * 2 ^ k : Nat) : Int) := by
    rw [Int.fdiv_eq_ediv_of_nonneg _ (Int.pow_nonneg (by decide))]
    simp
  rw [e1, bitXor_and, bitAnd_pp (by lia) (by lia), Int.toNat_natCast, Int.toNat_natCast]
  have e2 : x &&& (x / 2 ^ k * 2 ^ k) = x / 2 ^ k * 2 ^ k := by
    rw [← Nat.shiftRight_eq_div_pow, ← Nat.shiftLeft_eq]
    apply Nat.eq_of_testBit_eq
    intro i
    rw [Nat.testBit_and, Nat.testBit_shiftLeft, Nat.testBit_shiftRight]
    by_cases hi : k ≤ i
    · simp [hi]
    · simp [hi]
  rw [e2]
  have := Nat.div_add_mod x (2 ^ k)
  rw [Nat.mul_comm] at this
  lia

theorem lt_bits {a : Int} (h : 0 ≤ a) : a < 2 ^ (Builtin.Int.intBits a) := by
  unfold Builtin.Int.intBits
  by_cases hz : a = 0
  · simp [hz]
  · have hb : (a == 0) = false := by simpa using hz
    rw [hb]
    simp only [Bool.false_eq_true, if_false]
    have := Nat.lt_log2_self (n := a.natAbs)
    have e : ((a.natAbs : Nat) : Int) = a := by lia
    have h2 : ((a.natAbs : Nat) : Int) < ((2 ^ (a.natAbs.log2 + 1) : Nat) : Int) := Int.ofNat_lt.mpr this
    rw [e] at h2
    simpa using h2

theorem ceil_digits {a n : Int} (ha : 0 ≤ a) (hn : 0 < n) (h : a < 2 ^ (n.toNat * 16)) : ∃ k : Nat, ((Builtin.Int.intBits a : Int) + n - 1).fdiv n = (k : Int) ∧ k ≤ 16 ∧ a < 2 ^ (n.toNat * k) ∧ (a ≠ 0 → 0 < k) ∧ (a = 0 → k = 0) := by
  obtain ⟨N, rfl⟩ : ∃ N : Nat, n = N := ⟨n.toNat, by lia⟩
  have hN : 0 < N := by lia
  rw [Int.toNat_natCast] at h ⊢
  have h1 := bits_le ha h
  have h2 := lt_bits ha
  refine ⟨(Builtin.Int.intBits a + N - 1) / N, ?_, ?_, ?_, ?_, ?_⟩
  · rw [Int.fdiv_eq_ediv_of_nonneg _ (by lia)]
    have : ((Builtin.Int.intBits a : Int) + N - 1) = ((Builtin.Int.intBits a + N - 1 : Nat) : Int) := by lia
    rw [this]
    norm_cast
  · have : (Builtin.Int.intBits a + N - 1) / N < 17 := by
      rw [Nat.div_lt_iff_lt_mul hN]
      rw [Nat.mul_comm] at h1
      lia
    lia
  · have hle : Builtin.Int.intBits a ≤ N * ((Builtin.Int.intBits a + N - 1) / N) := by
      have e1 := Nat.div_add_mod (Builtin.Int.intBits a + N - 1) N
      have e2 := Nat.mod_lt (Builtin.Int.intBits a + N - 1) hN
      lia
    have : (2 : Int) ^ (Builtin.Int.intBits a) ≤ 2 ^ (N * ((Builtin.Int.intBits a + N - 1) / N)) := by
      have := Nat.pow_le_pow_right (show 0 < 2 by decide) hle
      exact_mod_cast this
    lia
  · intro hne
    have : 0 < Builtin.Int.intBits a := by
      rcases Nat.eq_zero_or_pos (Builtin.Int.intBits a) with e | e
      · rw [e] at h2; simp at h2; lia
      · exact e
    exact Nat.div_pos (by lia) hN
  · rintro rfl
    exact Nat.div_eq_of_lt (by simp [Builtin.Int.intBits]; lia)

theorem cut_mid {l M r : Nat} {ds e1 e2 : List Int} (h1 : l ≤ M) (h2 : M ≤ r) (h3 : r ≤ ds.length) (he : e1.length = M - l) : (ds.take l ++ e1 ++ ds.drop M).take M ++ e2 ++ (ds.take l ++ e1 ++ ds.drop M).drop r = ds.take l ++ (e1 ++ e2) ++ ds.drop r := by
  have hl : (ds.take l ++ e1).length = M := by simp; lia
  have e3 : (ds.take l ++ e1 ++ ds.drop M).take M = ds.take l ++ e1 := by rw [List.take_append_of_le_length (by lia), List.take_of_length_le (by lia)]
  have e4 : (ds.take l ++ e1 ++ ds.drop M).drop r = ds.drop r := by
    rw [List.drop_append, List.drop_eq_nil_of_le (by lia), List.nil_append, List.drop_drop, hl]
    congr 1
    lia
  rw [e3, e4]
  simp [List.append_assoc]

theorem ints_rep {t : Tok} : ∀ k : Nat, IntsAre (List.replicate k [Value.int 0 t]).flatten (List.replicate k 0)
  | 0 => .nil
  | k + 1 => .cons 0 t (ints_rep k)
theorem news_ne {h₀ h : Heap} {L : Addr} {news : List (Addr × Obj)} {a b : Addr} {o o' : Obj} (N : News h₀ L h news) (h1 : (a, o) ∈ news) (h2 : (b, o') ∈ news) (hne : o.data ≠ o'.data) : a ≠ b := by
  rintro rfl
  have e1 := (N _ h1).1
  have e2 := (N _ h2).1
  rw [e1] at e2
  cases e2
  exact hne rfl
theorem led_last {h₀ h₃ h : Heap} {L D : Addr} {a b c d e : Addr × Obj} {o o' : Obj} (N : News h₀ L h₃ [a, b, c, d, e, (D, o)]) (hst : ∀ x ox, x ≠ D → h₃.get? x = some ox → h.get? x = some ox) (hD : h.get? D = some o') (hne : ∀ p ∈ [a, b, c, d, e], p.1 ≠ D) :
    ∀ p ∈ [a, b, c, d, e, (D, o')], h.get? p.1 = some p.2 := fun p hp => by
  have : p ∈ [a, b, c, d, e] ∨ p = (D, o') := by simp at hp ⊢; grind
  rcases this with hp | rfl
  · exact hst _ _ (hne p hp) (N p (by simp at hp ⊢; grind)).1
  · exact hD
theorem stays_but {h h' : Heap} {led led' : List (Addr × Obj)} {L D : Addr} {m : Str → Option Value} (hl : ∀ p ∈ led, h.get? p.1 = some p.2) (hs : ∀ p ∈ led, p.1 ≠ D → p ∈ led')
    (F : Fr (hideAll h (led.map (·.1))) L h' m) (N : News (hideAll h (led.map (·.1))) L h' led') : ∀ b o, b ≠ D → h.get? b = some o → h'.get? b = some o := fun b o hD e => by
  by_cases hb : b ∈ led.map (·.1)
  · obtain ⟨p, hp, rfl⟩ := List.mem_map.mp hb
    rw [hl p hp] at e
    cases e
    exact (N p (hs p hp hD)).1
  · exact F.keep _ _ (hideAll_get _ e hb)
theorem fr_but {h₀ h h' : Heap} {L D : Addr} {m : Str → Option Value} (F : Fr h₀ L h m) (k : ∀ b o, b ≠ D → h.get? b = some o → h'.get? b = some o) (h0 : h₀.get? D = none) (hL : L ≠ D) : Fr h₀ L h' m :=
  ⟨F.ns.at' fun o e => k _ o hL e, fun b o e => k b o (fun q => by rw [q, h0] at e; cases e) (F.keep b o e), F.above⟩
theorem news_but {h₀ h h' : Heap} {L D : Addr} {a b c d e : Addr × Obj} {o o' : Obj} (N : News h₀ L h [a, b, c, d, e, (D, o)]) (k : ∀ b o, b ≠ D → h.get? b = some o → h'.get? b = some o) (hD : h'.get? D = some o') (hne : ∀ p ∈ [a, b, c, d, e], p.1 ≠ D) : News h₀ L h' [a, b, c, d, e, (D, o')] := fun p hp => by
  have : p ∈ [a, b, c, d, e] ∨ p = (D, o') := by simp at hp ⊢; grind
  rcases this with hp | rfl
  · have := N p (by simp at hp ⊢; grind)
    exact ⟨k _ _ (hne p hp) this.1, this.2⟩
  · exact ⟨hD, (N (D, o) (by simp)).2⟩

theorem abs_rep {h₀ h : Heap} {L D : Addr} {rest : List (Addr × Obj)} {c k : Nat} {t : Tok} (N : News h₀ L h ((D, PySem.W.listOf (List.replicate k [Value.int 0 t]).flatten.toArray c) :: rest)) : ∃ vs ds, IntsAre vs ds ∧ ds.length = k ∧ News h₀ L h ((D, PySem.W.listOf vs.toArray c) :: rest) :=
  ⟨_, _, ints_rep k, List.length_replicate .., N⟩
theorem news_pick {h₀ h : Heap} {L : Addr} {d l i a n t : Addr × Obj} (N : News h₀ L h [d, l, i, a, n, t]) : News h₀ L h [t, i, a, n, d] := fun p hp => N p (by simp at hp ⊢; grind)

theorem five_ne {D a b c d e : Addr} {oa ob oc od oe : Obj} (h1 : a ≠ D) (h2 : b ≠ D) (h3 : c ≠ D) (h4 : d ≠ D) (h5 : e ≠ D) : ∀ p ∈ [(a, oa), (b, ob), (c, oc), (d, od), (e, oe)], p.1 ≠ D := fun p hp => by
  simp at hp
  rcases hp with rfl | rfl | rfl | rfl | rfl <;> assumption
theorem pre_of_five {D : Addr} {a b c d e : Addr × Obj} {o o' : Obj} : ∀ p ∈ [a, b, c, d, e, (D, o)], p.1 ≠ D → p ∈ [a, b, c, d, e, (D, o')] := fun p hp hn => by
  simp at hp ⊢
  grind

noncomputable def lastAddr {h₀ h : Heap} {L D : Addr} {t i a n : Addr × Obj} {o : Obj} (_ : News h₀ L h [t, i, a, n, (D, o)]) : Addr := D

theorem i2d_spec : ∀ {w : World} {dp un : Nat} {fr : Option (List Env)} {gd : Option (List Code)} {E : Value → Shared → Prop} {s : Shared} {g : Heap} {p : Program} {loose : List Str} {mean : ExcName → Option Value} {mg mb : Str → Option Value} {Q : Value → Shared → Prop} {a n : Int} {t u : Tok} {ps : Array Value},
    (Mine.hd.heap_39 w.params).In g → Top p loose mean mg mb g → g.StaysIn s.heap → g.get? 73 = none → TabSt s.heap 73 ps 66 4 (Str.ofString "_int2digits.<locals>.inner") →
    0 < n → n ≤ 200 → 0 ≤ a → a < 2 ^ (n.toNat * 16) → dp + 40 < recursionLimit → un + 1000 < cLine →
    (∀ h' tk x vs c es c', (∀ b o, b ≠ 73 → s.heap.get? b = some o → h'.get? b = some o) → TabFull h' 73 c' 66 4 (Str.ofString "_int2digits.<locals>.inner") → TabOld s.heap ps c' 66 4 → s.heap.get? x = none → h'.get? x = some (PySem.W.listOf vs.toArray c) → IntsAre vs es → hv n.toNat es = a → (∀ y ∈ es, 0 ≤ y ∧ y < 2 ^ n.toNat) → es.length ≤ 16 → Q (.ref x) { s with heap := h', toks := tk }) →
    wpAny (model PySem.Challenge.rw_xe0036_01.row.prog w) (AA dp un fr gd) (call (.ref 78) [.int a t, .int n u]) Q E s := by
  k_fill
  intro w dp un fr gd E s g p loose mean mg mb Q a n t u ps X T hg hP hTab hn0 hn1 ha0 ha1 hdp hun h
  have ⟨NB, hN⟩ : ∃ NB : Nat, n = NB := ⟨n.toNat, by lia⟩
  subst hN
  have hK80 : ∀ b o, b ≠ 73 → s.heap.get? b = some o → (hideAll s.heap ([(73, tabObj ps)].map (·.1))).get? b = some o := fun b o hb e => hideAll_get _ e (fun q => hb (List.mem_singleton.mp q))
  have hg80 : ∀ b o, g.get? b = some o → (hideAll s.heap ([(73, tabObj ps)].map (·.1))).get? b = some o := fun b o e => hK80 b o (fun q => by rw [q, hP] at e; cases e) (hg b o e)
  refine call_fnC (binds := [(Str.ofString "a", .int a t), (Str.ofString "n", .int NB u)]) [(73, tabObj ps)] (fun p hp => by rw [List.mem_singleton.mp hp]; exact hTab.1) (T.nolimit.keeps hg) (hg _ _ (X 78 _ (by rfl))) (by rfl) (codeRec_of (X.keeps hg) (by kernel_rfl)) (by show dp < _; lia) (by rfl) (by rfl) (by decide) fun h₁ tk cells E' F N Y => ?_
  have X0 := X.keeps hg80
  have T0 := T.keeps hg80
  have C0 : CodeHd (hideAll s.heap ([(73, tabObj ps)].map (·.1))) 77 73 := codeHd_of_K X0 (by kernel_rfl)
  have hps : ps = #[] ∨ ∃ c', ps = #[rawInt (66 : Nat), rawInt (4 : Nat), .ref c'] ∧ c' ≠ 73 ∧ (hideAll s.heap ([(73, tabObj ps)].map (·.1))).CodeRec (.ref c') (Str.ofString "_int2digits.<locals>.inner") := by
    rcases hTab.2 with e | ⟨c, e1, e2, e3⟩
    · exact .inl e
    · refine .inr ⟨c, e1, e2, ?_⟩
      obtain ⟨cc, oc, vs, t, q0, q1, q2, q3⟩ := e3
      cases q0
      exact ⟨c, oc, vs, t, rfl, hK80 _ _ e2 q1, q2, q3⟩
  have hL80 : 73 < s.heap.objs.size := Heap.lt_size hTab.1
  k_cells Y
  dsimp only [List.map_cons, List.map_nil, List.cons_append, List.nil_append] at N F X0 T0 C0 hps
  obtain ⟨k0, hk0, hk16, hak, hkp, hkz⟩ := ceil_digits ha0 hn0 ha1
  have hc0 : 0 ≤ ((Builtin.Int.intBits a : Int) + (NB : Int) - 1).fdiv NB := by lia
  have hc1 : ((Builtin.Int.intBits a : Int) + (NB : Int) - 1).fdiv NB ≤ 16 := by lia
  have hnz : (NB : Int) ≠ 0 := by lia
  iterate 25 walk1
  rename News _ _ _ _ => N9
  rename Fr _ _ _ _ => F9
  try simp only [List.cons_append, List.nil_append] at N9
  obtain ⟨vs0, ds0, hI0, hl0, N8⟩ := abs_rep N9
  clear N9
  have N7 := news_pick N8
  clear N8
  rw [hk0, Int.toNat_natCast] at hl0
  rw [Int.toNat_natCast] at hak h
  obtain ⟨D, hDe⟩ : ∃ D, D = lastAddr N7 := ⟨_, rfl⟩
  unfold lastAddr at hDe
  subst hDe
  have hneT := news_ne N7 (.head _) (.tail _ (.tail _ (.tail _ (.tail _ (.head _))))) (by simp)
  have hneI := news_ne N7 (.tail _ (.head _)) (.tail _ (.tail _ (.tail _ (.tail _ (.head _))))) (by simp [*])
  have hneA := news_ne N7 (.tail _ (.tail _ (.head _))) (.tail _ (.tail _ (.tail _ (.tail _ (.head _))))) (by simp [*])
  have hneN := news_ne N7 (.tail _ (.tail _ (.tail _ (.head _)))) (.tail _ (.tail _ (.tail _ (.tail _ (.head _))))) (by simp [*])
  refine wpAny_execs_cons ?_
  refine nestDef_K rfl rfl rfl ?_
  refine nest_store F9 N7 T0 C0 rfl ?hr ?hr2 hps rfl rfl (by assumption) rfl rfl fun f c' ctv doc h₃ oI tk₃ F3 N3 dI hc3 hcP hold => ?_
  case hr =>
    intro q hq
    simp at hq
    rcases hq with rfl | rfl | rfl | rfl
    · simp; lia
    · simp; lia
    · simp; lia
    · exact hneT.symm
  case hr2 =>
    intro q hq
    simp at hq
    rcases hq with rfl | rfl | rfl
    · simp
    · simp
    · exact hneI.symm
  clear N7 F9
  dsimp only
  have hneF := news_ne N3 (.head _) (.tail _ (.tail _ (.tail _ (.tail _ (.tail _ (.head _)))))) (by simp)
  have hneI2 := news_ne N3 (.tail _ (.tail _ (.head _))) (.tail _ (.tail _ (.tail _ (.tail _ (.tail _ (.head _)))))) (by simp [dI])
  obtain ⟨hD0, hDL, hDn⟩ := N3 _ (.tail _ (.tail _ (.tail _ (.tail _ (.tail _ (.head _))))))
  dsimp only at hD0 hDL hDn
  have hin : ∀ (k : Nat) (X L R : Int) (x l r : Nat) (tX tL tR : Tok) (dp' un' : Nat) (fr' : Option (List Env)) (gd' : Option (List Code)) (E₁ : Value → Shared → Prop) (s' : Shared) (Q' : Value → Shared → Prop) (vs : List Value) (ds : List Int),
      X = x → L = l → R = r → r ≤ l + k → l < r → r ≤ ds.length → ds.length ≤ 16 → x < 2 ^ (NB * (r - l)) → (∀ b o, b ≠ D → h₃.get? b = some o → s'.heap.get? b = some o) → s'.heap.get? D = some (PySem.W.listOf vs.toArray 0) → IntsAre vs ds → dp' + k + 5 < recursionLimit → un' + 20 * k + 50 < cLine →
      (∀ h' tk vs' es, (∀ b o, b ≠ D → s'.heap.get? b = some o → h'.get? b = some o) → h'.get? D = some (PySem.W.listOf vs'.toArray 0) → IntsAre vs' (ds.take l ++ es ++ ds.drop r) → es.length = r - l → hv NB es = (x : Int) → (∀ y ∈ es, 0 ≤ y ∧ y < 2 ^ NB) → Q' .none { s' with heap := h', toks := tk }) →
      wpAny (model PySem.Challenge.rw_xe0036_01.row.prog w) (AA dp' un' fr' gd') (call (.ref f) [.int X tX, .int L tL, .int R tR]) Q' E₁ s' := by
    intro k
    induction k with
    | zero => intro X L R x l r _ _ _ _ _ _ _ _ _ _ _ _ _ _ _ h1 h2; lia
    | succ k ih =>
      rintro X L R x l r tX tL tR dp' un' fr' gd' E₁ s' Q' vs ds rfl rfl rfl hk hLR hR hds hx hst hDs hvs hdp' hun' hq
      have hk0 : ∀ b o, _ → s'.heap.get? b = some o := fun b o (e : Heap.get? (hideAll s.heap _) b = some o) => hst b o (by rintro rfl; rw [hDn] at e; cases e) (F3.keep b o e)
      refine call_fnN (binds := [(Str.ofString "x", .int x tX), (Str.ofString "L", .int l tL), (Str.ofString "R", .int r tR)]) _ (led_last N3 hst hDs (five_ne hneF hneT hneI2 hneA hneN)) (T0.nolimit.keeps hk0) (hst _ _ hneF (N3 _ (.head _)).1) (by rfl) (hc3.keepsBut hst hD0 (by simp)) (by show dp' < _; lia) (by rfl) (locs rfl) fun h₄ tk₄ E₄ F4 N4 => ?_
      have hend : ∀ h' m o', Fr (hideAll s'.heap _) s'.heap.objs.size h' m → News (hideAll s'.heap _) s'.heap.objs.size h' [_, _, _, _, _, (D, o')] → ∀ b o, b ≠ D → s'.heap.get? b = some o → h'.get? b = some o := fun h' m o' F N => stays_but (led_last N3 hst hDs (five_ne hneF hneT hneI2 hneA hneN)) pre_of_five F N
      have hgD : (hideAll s'.heap _).get? D = none := (N4 _ (.tail _ (.tail _ (.tail _ (.tail _ (.tail _ (.head _))))))).2.2
      have hgL : s'.heap.objs.size ≠ D := Ne.symm (N4 _ (.tail _ (.tail _ (.tail _ (.tail _ (.tail _ (.head _))))))).2.1
      generalize hideAll s'.heap _ = g4 at F4 N4 hend hgD
      have hb1 : (l : Int) ≤ 16 := by lia
      have hb2 : (r : Int) ≤ 16 := by lia
      by_cases h1 : l + 1 = r
      · subst h1
        iterate 10 walk1
        refine ite_pos (by simp) ?_
        iterate 9 walk1
        rename Fr _ _ _ _ => F5
        rename News _ _ _ _ => N5
        rename IntsAre _ _ => I5
        rw [Nat.add_sub_cancel_left, Nat.mul_one] at hx
        rw [Int.toNat_natCast] at I5
        have e5 : ds.set l (x : Int) = ds.take l ++ [(x : Int)] ++ ds.drop (l + 1) := by
          rw [List.set_eq_take_append_cons_drop, if_pos (by lia), List.append_assoc]
          rfl
        rw [e5] at I5
        refine hq _ _ _ _ (hend _ _ _ F5 N5) (N5 _ (.tail _ (.tail _ (.tail _ (.tail _ (.tail _ (.head _))))))).1 I5 (by simp) (by simp [hv]) (fun y hy => ?_)
        rw [List.mem_singleton.mp hy]
        have : ((x : Nat) : Int) < ((2 ^ NB : Nat) : Int) := Int.ofNat_lt.mpr hx
        exact ⟨by lia, by simpa using this⟩
      iterate 10 walk1
      refine ite_neg (by simp; lia) ?_
      iterate 22 walk1
      have hM1 : ((((l + r) / 2 : Nat) : Int) - l) = (((l + r) / 2 - l : Nat) : Int) := by lia
      obtain ⟨K, hK⟩ : ∃ K : Nat, K = ((l + r) / 2 - l) * NB := ⟨_, rfl⟩
      have hK2 : (((l + r) / 2 - l : Nat) : Int) * (NB : Int) = (K : Int) := by rw [hK, Int.natCast_mul]
      have hK3 : K ≤ 3200 := by
        rw [hK]
        have := Nat.mul_le_mul (show (l + r) / 2 - l ≤ 16 by lia) (show NB ≤ 200 by lia)
        lia
      rename Fr _ _ _ _ => F5
      rename News _ _ _ _ => N5
      rw [mid_eq l r, hM1, hK2] at F5
      have hs0 : (0 : Int) ≤ K := by lia
      have hs1 : (K : Int) ≤ 3200 := by lia
      iterate 5 walk1
      iterate 9 walk1
      have hfd : ((x : Int).fdiv (2 ^ ((K : Nat) : Int).toNat)) = ((x / 2 ^ K : Nat) : Int) := by
        rw [Int.toNat_natCast, Int.fdiv_eq_ediv_of_nonneg _ (Int.pow_nonneg (by decide))]
        norm_cast
      have hxK : x < 2 ^ 3200 := by
        refine Nat.lt_of_lt_of_le hx (Nat.pow_le_pow_right (by decide) ?_)
        have := Nat.mul_le_mul (show NB ≤ 200 by lia) (show r - l ≤ 16 by lia)
        lia
      have hbits : Builtin.Int.intBits ((x : Int).fdiv (2 ^ ((K : Nat) : Int).toNat)) ≤ 3200 := by
        rw [hfd]
        refine bits_le (Int.natCast_nonneg _) ?_
        have : x / 2 ^ K < 2 ^ 3200 := Nat.lt_of_le_of_lt (Nat.div_le_self _ _) hxK
        have := Int.ofNat_lt.mpr this
        simpa using this
      refine lshift_int hs0 (by lia) ?_
      iterate 3 walk1
      rename Fr _ _ _ _ => F5
      rename News _ _ _ _ => N5
      rw [hfd] at F5
      have hlow : Builtin.bitXor (x : Int) (((x / 2 ^ K : Nat) : Int) * 2 ^ ((K : Nat) : Int).toNat) = ((x % 2 ^ K : Nat) : Int) := by
        rw [← hfd, Int.toNat_natCast]
        exact xor_low x K
      rw [hlow] at F5
      iterate 11 walk1
      rename Fr _ _ _ _ => F6
      rename News _ _ _ _ => N6
      have hLD := hgL
      refine ⟨FnAt.of N6 (.head _), ?_⟩
      have hst6 : ∀ b o, b ≠ D → h₃.get? b = some o → _ := fun b o hb e => hend _ _ _ F6 N6 b o hb (hst b o hb e)
      refine ih _ _ _ (x % 2 ^ K) l ((l + r) / 2) _ _ _ (dp' + 1) (un' + 3) _ _ _ _ _ vs ds rfl rfl rfl ?a1 ?a2 ?a3 hds ?ax ?ast ?aD hvs ?ad ?au fun h₅ tk₅ vs5 es5 hk5 hD5 hI5 hl5 hv5 hb5 => ?_
      case a1 => lia
      case a2 => lia
      case a3 => lia
      case ax =>
        rw [Nat.mul_comm, ← hK]
        exact Nat.mod_lt _ (Nat.pow_pos (by decide))
      case ast => exact hst6
      case aD => exact (N6 _ (.tail _ (.tail _ (.tail _ (.tail _ (.tail _ (.head _))))))).1
      case ad => lia
      case au => lia
      have F7 := fr_but F6 hk5 hgD hLD
      have N7 := news_but N6 hk5 hD5 (five_ne hneF hneT hneI2 hneA hneN)
      clear F6 N6
      dsimp only
      iterate 12 walk1
      rename Fr _ _ _ _ => F8
      rename News _ _ _ _ => N8
      refine ⟨FnAt.of N8 (.head _), ?_⟩
      have hk8 : ∀ b o, b ≠ D → s'.heap.get? b = some o → _ := hend _ _ _ F8 N8
      refine ih _ _ _ (x / 2 ^ K) ((l + r) / 2) r _ _ _ (dp' + 1) (un' + 3) _ _ _ _ _ vs5 _ rfl rfl rfl ?a1 ?a2 ?a3 ?ads ?ax ?ast ?aD hI5 ?ad ?au fun h₉ tk₉ vs9 es9 hk9 hD9 hI9 hl9 hv9 hb9 => ?_
      case a1 => lia
      case a2 => lia
      case a3 => simp; lia
      case ads => simp; lia
      case ax =>
        rw [Nat.div_lt_iff_lt_mul (Nat.pow_pos (by decide)), ← Nat.pow_add, hK, Nat.mul_comm _ NB, ← Nat.mul_add]
        refine Nat.lt_of_lt_of_le hx (Nat.pow_le_pow_right (by decide) ?_)
        rw [show r - (l + r) / 2 + ((l + r) / 2 - l) = r - l from by lia]
        exact Nat.le_refl _
      case ast => exact fun b o hb e => hk8 b o hb (hst b o hb e)
      case aD => exact (N8 _ (.tail _ (.tail _ (.tail _ (.tail _ (.tail _ (.head _))))))).1
      case ad => lia
      case au => lia
      dsimp only
      iterate 1 walk1
      rw [cut_mid (by lia) (by lia) hR hl5] at hI9
      refine hq _ _ _ _ (fun b o hb e => hk9 b o hb (hk8 b o hb e)) hD9 hI9 (by rw [List.length_append, hl5, hl9]; lia) ?_ (fun y hy => ?_)
      · rw [hv_append, hv5, hv9, hl5, Nat.mul_comm NB, ← hK]
        have := Nat.mod_add_div x (2 ^ K)
        have h2 : ((x % 2 ^ K + 2 ^ K * (x / 2 ^ K) : Nat) : Int) = x := by rw [this]
        rw [← h2]
        simp
      · rcases List.mem_append.mp hy with hy | hy
        · exact hb5 y hy
        · exact hb9 y hy
  have hfin : ∀ h' : Heap, (∀ b o, b ≠ D → h₃.get? b = some o → h'.get? b = some o) → (∀ b o, b ≠ 73 → s.heap.get? b = some o → h'.get? b = some o) ∧ TabFull h' 73 c' 66 4 (Str.ofString "_int2digits.<locals>.inner") ∧ TabOld s.heap ps c' 66 4 := fun h' hs =>
    ⟨fun b o hb e => hs _ _ (by rintro rfl; rw [hK80 b o hb e] at hDn; cases hDn) (F3.keep _ _ (hK80 b o hb e)), ⟨hs _ _ hneT (N3 _ (.tail _ (.head _))).1, hcP, hc3.keepsBut hs hD0 (by simp)⟩, hold.unhide hcP hK80⟩
  have hDs : s.heap.get? D = none := by
    cases e : s.heap.get? D with
    | none => rfl
    | some o => rw [hK80 D o hneT.symm e] at hDn; cases hDn
  by_cases hz : a = 0
  · subst hz
    have : ds0 = [] := List.eq_nil_of_length_eq_zero (by rw [hl0]; exact hkz rfl)
    subst this
    iterate 5 walk1
    refine ite_neg (by simp) ?_
    repeat walk1
    have ⟨q1, q2, q3⟩ := hfin _ (fun b o _ e => e)
    exact h _ _ _ _ _ [] _ q1 q2 q3 hDs hD0 hI0 rfl (fun y hy => nomatch hy) (Nat.zero_le _)
  · iterate 5 walk1
    refine ite_pos (by simpa using hz) ?_
    iterate 18 walk1
    refine ⟨FnAt.of N3 (.head _), ?_⟩
    have ⟨x, hx⟩ : ∃ x : Nat, a = x := ⟨a.toNat, by lia⟩
    subst hx
    refine hin k0 _ _ _ x 0 k0 _ _ _ (dp + 1) (un + 3) _ _ _ _ _ vs0 ds0 rfl rfl ?aR ?a1 ?a2 ?a3 ?a4 ?ax ?ast ?aD hI0 ?ad ?au fun h₅ tk₅ vs5 es5 hk5 hD5 hI5 hl5 hv5 hb5 => ?_
    case aD => exact hD0
    case aR => rw [hl0]
    case a1 => lia
    case a2 => exact hkp hz
    case a3 => lia
    case a4 => lia
    case ax =>
      have : ((x : Nat) : Int) < ((2 ^ (NB * k0) : Nat) : Int) := by simpa using hak
      exact Int.ofNat_lt.mp this
    case ast => exact fun b o hb e => e
    case ad => lia
    case au => lia
    dsimp only
    have F5 := fr_but F3 hk5 hDn (Ne.symm hDL)
    have N5 := news_but N3 hk5 hD5 (five_ne hneF hneT hneI2 hneA hneN)
    repeat walk1
    have ⟨q1, q2, q3⟩ := hfin _ hk5
    rw [List.take_zero, List.nil_append, List.drop_of_length_le (by lia), List.append_nil] at hI5
    exact h _ _ _ _ _ _ _ q1 q2 q3 hDs hD5 hI5 hv5 hb5 (by rw [hl5]; lia)
end Mine
end
section
theorem Mine.startSpecDivmod : True := by
  w_top off
  trivial
open PySem PySem.Spec PySem.Calls PyProof.Rows PySem.W
set_option maxRecDepth 100000
set_option maxHeartbeats 4000000
namespace Mine

theorem tl_of {h : Heap} {P : Addr} {ps : Array Value} {line col : Nat} {q : Str} (x : TabSt h P ps line col q) : ∃ tl : List (Addr × Obj), (∀ p ∈ tl, h.get? p.1 = some p.2) ∧ (∀ p ∈ tl, ps = #[rawInt line, rawInt col, .ref p.1]) ∧ (∀ c, ps = #[rawInt line, rawInt col, .ref c] → ∃ o, (c, o) ∈ tl) := by
  rcases x.2 with rfl | ⟨c, rfl, _, c', o, vs, t, e, g, _⟩
  · exact ⟨[], by simp, by simp, fun c e => by cases e⟩
  · cases e
    refine ⟨[(c, o)], by simpa using g, by simp, fun c' e => ⟨o, ?_⟩⟩
    simp at e
    simp [e]

theorem tab_here {h₀ h s : Heap} {L P : Addr} {news tl : List (Addr × Obj)} {ps : Array Value} {line col : Nat} {q : Str} (N : News h₀ L h news) (hm : (P, tabObj ps) ∈ news) (hs : ∀ p ∈ tl, p ∈ news) (x : TabSt s P ps line col q) (htl : ∀ p ∈ tl, s.get? p.1 = some p.2) (ht3 : ∀ c, ps = #[rawInt line, rawInt col, .ref c] → ∃ o, (c, o) ∈ tl) : TabSt h P ps line col q := by
  refine ⟨(N _ hm).1, ?_⟩
  rcases x.2 with e | ⟨c, e1, e2, c', o, vs, t, q0, q1, q2, q3⟩
  · exact .inl e
  · cases q0
    obtain ⟨o', ho'⟩ := ht3 c e1
    have := htl _ ho'
    rw [q1] at this; cases this
    exact .inr ⟨c, e1, e2, c, _, vs, t, rfl, (N _ (hs _ ho')).1, q2, q3⟩

noncomputable def CodeOb (o : Obj) (q : Str) : Prop := ∃ vs t, o.data = .fields vs ∧ vs[1]? = some (.str q t)
theorem after_i2d {h₀ h h' : Heap} {L P x c : Addr} {m : Str → Option Value} {tl : List (Addr × Obj)} {t80 ox : Obj} {ps : Array Value} {line col : Nat} {q : Str} (F : Fr h₀ L h m) (N : News h₀ L h ((80, t80) :: (P, tabObj ps) :: tl)) (k : ∀ b o, b ≠ P → h.get? b = some o → h'.get? b = some o) (hP : (80 : Addr) ≠ P)
    (G : TabFull h' P c line col q) (O : TabOld h ps c line col) (hx : h.get? x = none) (hx' : h'.get? x = some ox) (ht3 : ∀ c, ps = #[rawInt line, rawInt col, .ref c] → ∃ o, (c, o) ∈ tl) (ht2 : ∀ p ∈ tl, ps = #[rawInt line, rawInt col, .ref p.1]) :
    ∃ oc, CodeOb oc q ∧ (∀ p ∈ tl, p = (c, oc)) ∧ News h₀ L h' [(x, ox), (80, t80), (P, tabObj #[rawInt line, rawInt col, .ref c]), (c, oc)] := by
  obtain ⟨oL, es, ep, hL, _⟩ := F.ns
  have h0 : ∀ y, h.get? y = none → y ≠ L ∧ h₀.get? y = none := fun y hy => by
    refine ⟨(by rintro rfl; rw [hL] at hy; cases hy), ?_⟩
    cases e : h₀.get? y with
    | none => rfl
    | some o => rw [F.keep _ _ e] at hy; cases hy
  obtain ⟨g1, g2, c', o, vs, t, e0, e1, e2, e3⟩ := G
  cases e0
  refine ⟨o, ⟨vs, t, e2, e3⟩, fun p hp => ?_, fun p hp => ?_⟩
  · have e4 := ht2 p hp
    rcases O with ⟨hn, _⟩ | e5
    · rw [hn] at e4; cases e4
    · rw [e5] at e4
      have e6 : c = p.1 := by simpa using e4
      have e7 := k _ _ (e6 ▸ g2) (N p (.tail _ (.tail _ hp))).1
      rw [← e6, e1] at e7
      exact Prod.ext e6.symm (Option.some.inj e7).symm
  simp at hp
  rcases hp with rfl | rfl | rfl | rfl
  · exact ⟨hx', h0 _ hx⟩
  · have := N _ (.head _)
    exact ⟨k _ _ hP this.1, this.2⟩
  · exact ⟨g1, (N _ (.tail _ (.head _))).2⟩
  · refine ⟨e1, ?_⟩
    rcases O with ⟨_, hn⟩ | hp
    · exact h0 _ hn
    · obtain ⟨o', ho'⟩ := ht3 _ hp
      exact (N _ (.tail _ (.tail _ ho'))).2

noncomputable def adr1 {h₀ h : Heap} {L : Addr} {a b : Addr × Obj} {r : List (Addr × Obj)} (_ : News h₀ L h (a :: b :: r)) : Addr := a.1
noncomputable def adr2 {h₀ h : Heap} {L : Addr} {a b : Addr × Obj} {r : List (Addr × Obj)} (_ : News h₀ L h (a :: b :: r)) : Addr := b.1
theorem norm3 {r q a : Str} {A B C A' B' C' : Option Value} {m : Str → Option Value} : (fun y => if y = r then A else if y = q then B else if y = a then C else if y = r then A' else if y = q then B' else if y = a then C' else m y) = (fun y => if y = r then A else if y = q then B else if y = a then C else m y) := by
  funext y
  by_cases h1 : y = r <;> by_cases h2 : y = q <;> by_cases h3 : y = a <;> simp [h1, h2, h3]

theorem norm_in {r q a : Str} {A B C : Option Value} {m : Str → Option Value} (h1 : m r = A) (h2 : m q = B) (h3 : m a = C) : m = (fun y => if y = r then A else if y = q then B else if y = a then C else m y) := by
  funext y
  by_cases e1 : y = r
  · subst e1; rw [if_pos rfl, h1]
  by_cases e2 : y = q
  · subst e2; rw [if_neg e1, if_pos rfl, h2]
  by_cases e3 : y = a
  · subst e3; rw [if_neg e1, if_neg e2, if_pos rfl, h3]
  rw [if_neg e1, if_neg e2, if_neg e3]
noncomputable def mOf {h₀ h : Heap} {L : Addr} {m : Str → Option Value} (_ : Fr h₀ L h m) : Str → Option Value := m
theorem ints_rev : ∀ {vs : List Value} {ns : List Int}, IntsAre vs ns → IntsAre vs.reverse ns.reverse := by
  intro vs ns h
  have app : ∀ {a b : List Value} {c d : List Int}, IntsAre a c → IntsAre b d → IntsAre (a ++ b) (c ++ d) := by
    intro a b c d h1 h2
    induction h1 with
    | nil => exact h2
    | cons i t _ ih => exact .cons i t ih
  induction h with
  | nil => exact .nil
  | cons i t _ ih => rw [List.reverse_cons, List.reverse_cons]; exact app ih (.cons i t .nil)
theorem ints_at : ∀ {vs : List Value} {ns : List Int} {i : Nat} {v : Value}, IntsAre vs ns → vs[i]? = some v → ∃ d t, v = .int d t ∧ ns[i]? = some d
  | _, _, i, _, .nil, h => by simp at h
  | _, _, 0, _, .cons d t _, h => by simp at h; exact ⟨d, t, h.symm, rfl⟩
  | _, _, i + 1, _, .cons d t r, h => by
    simp at h
    obtain ⟨d', t', e1, e2⟩ := ints_at r h
    exact ⟨d', t', e1, by simpa using e2⟩

theorem news_new {h₀ h h' : Heap} {L x : Addr} {o : Obj} {m : Str → Option Value} {news : List (Addr × Obj)} (F : Fr h₀ L h m) (N : News h₀ L h' news) (hx : h.get? x = none) (hx' : h'.get? x = some o) : News h₀ L h' ((x, o) :: news) := fun p hp => by
  rcases List.mem_cons.mp hp with rfl | hp
  · obtain ⟨oL, es, ep, hL, _⟩ := F.ns
    refine ⟨hx', (by rintro rfl; rw [hL] at hx; cases hx), ?_⟩
    cases e : h₀.get? x with
    | none => rfl
    | some o => rw [F.keep _ _ e] at hx; cases hx
  · exact N p hp
theorem step_bounds {rv dg b : Int} {nb : Nat} (hr0 : 0 ≤ rv) (hr1 : rv < b) (hd0 : 0 ≤ dg) (hd1 : dg < 2 ^ nb) : 0 ≤ rv * 2 ^ nb + dg ∧ rv * 2 ^ nb + dg < b * 2 ^ nb := by
  have hp : (0 : Int) < 2 ^ nb := Int.pow_pos (by decide)
  have e1 := Int.mul_nonneg hr0 (Int.le_of_lt hp)
  have e2 : (rv + 1) * 2 ^ nb ≤ b * 2 ^ nb := Int.mul_le_mul_of_nonneg_right (by lia) (Int.le_of_lt hp)
  rw [Int.add_mul] at e2
  lia

theorem ints_app {a b : List Value} {c d : List Int} (h1 : IntsAre a c) (h2 : IntsAre b d) : IntsAre (a ++ b) (c ++ d) := by
  induction h1 with
  | nil => exact h2
  | cons i t _ ih => exact .cons i t ih
theorem rel_step {b rv dg H P : Int} : dg + P * (H * b + rv) = ((rv * P + dg) / b + P * H) * b + (rv * P + dg) % b := by
  have := Int.mul_ediv_add_emod (rv * P + dg) b
  grind
theorem drop_step {es : List Int} {i : Nat} {dg : Int} (h : es.reverse[i]? = some dg) : es.drop (es.length - (i + 1)) = dg :: es.drop (es.length - i) := by
  have hi := (List.getElem?_eq_some_iff.mp h).1
  rw [List.length_reverse] at hi
  rw [List.getElem?_reverse hi] at h
  have hj : es.length - (i + 1) < es.length := by lia
  rw [List.drop_eq_getElem_cons hj]
  have e1 : es.length - (i + 1) + 1 = es.length - i := by lia
  rw [e1]
  congr 1
  have e2 : es.length - 1 - i = es.length - (i + 1) := by lia
  rw [e2, List.getElem?_eq_getElem hj] at h
  exact Option.some.inj h

noncomputable abbrev qD : Str := Str.ofString "_digits2int.<locals>.inner"
noncomputable abbrev qI : Str := Str.ofString "_int2digits.<locals>.inner"

theorem tab80_code {s h₀ : Heap} {ps80 ps73 : Array Value} {tl : List (Addr × Obj)} (h80 : TabSt s 80 ps80 81 4 qD) (h73 : TabSt s 73 ps73 66 4 qI) (ht2 : ∀ p ∈ tl, ps73 = #[rawInt (66 : Nat), rawInt (4 : Nat), .ref p.1])
    (hK : ∀ x o, x ≠ 80 → x ≠ 73 → (∀ p ∈ tl, x ≠ p.1) → s.get? x = some o → h₀.get? x = some o) : ps80 = #[] ∨ ∃ c, ps80 = #[rawInt (81 : Nat), rawInt (4 : Nat), .ref c] ∧ c ≠ 80 ∧ h₀.CodeRec (.ref c) qD := by
  rcases h80.2 with e | ⟨c, e1, e2, c', o, vs, t, q0, q1, q2, q3⟩
  · exact .inl e
  · cases q0
    refine .inr ⟨c, e1, e2, c, o, vs, t, rfl, (hK _ _ e2 ?_ (fun p hp e => ?_) q1), q2, q3⟩
    · rintro rfl
      rw [h73.1] at q1
      cases q1
      cases q2
      rcases h73.2 with e | ⟨c2, e, _⟩
      · rw [e] at q3; cases q3
      · rw [e] at q3
        have : some (rawInt (4 : Nat)) = some (Value.str qD t) := q3
        cases this
    · have e3 := ht2 p hp
      rcases h73.2 with e4 | ⟨c2, e4, _, c3, o3, vs3, t3, r0, r1, r2, r3⟩
      · rw [e4] at e3; cases e3
      · cases r0
        rw [e4] at e3
        have e5 : c2 = p.1 := by simpa using e3
        rw [e5, ← e, q1] at r1
        cases r1
        rw [q2] at r2
        cases r2
        rw [q3] at r3
        have e6 : qD = qI := by injection r3 with r3; injection r3
        exact absurd e6 (by decide)

theorem tab_ne_code {ps : Array Value} {o : Obj} {line col : Nat} {q : Str} (x : ps = #[] ∨ ∃ c, ps = #[rawInt line, rawInt col, .ref c]) (y : CodeOb o q) : o.data ≠ (tabObj ps).data := by
  obtain ⟨vs, t, e1, e2⟩ := y
  intro e
  rw [e1] at e
  cases e
  rcases x with e | ⟨c, e⟩
  · rw [e] at e2; cases e2
  · rw [e] at e2
    have : some (rawInt col) = some (Value.str q t) := e2
    cases this
/-- the code after the call, kept either below or in the ledger -/
theorem code_kept {h₀ h h' : Heap} {L c P : Addr} {m : Str → Option Value} {ps : Array Value} {line col : Nat} {q : Str} (F : Fr h₀ L h m) (G : TabFull h' P c line col q) (O : TabOld h ps c line col) (x : ps = #[] ∨ ∃ c, ps = #[rawInt line, rawInt col, .ref c] ∧ c ≠ P ∧ h₀.CodeRec (.ref c) q) :
    ∃ ex : List (Addr × Obj), News h₀ L h' ex ∧ ∀ h₂ : Heap, (∀ p ∈ ex, h₂.get? p.1 = some p.2) → (∀ b o, h₀.get? b = some o → h₂.get? b = some o) → h₂.CodeRec (.ref c) q := by
  obtain ⟨oL, es, ep, hL, _⟩ := F.ns
  obtain ⟨g1, g2, c', o, vs, t, e0, e1, e2, e3⟩ := G
  cases e0
  rcases O with ⟨_, hn⟩ | hp
  · refine ⟨[(c, o)], fun p hp => ?_, fun h₂ k _ => ⟨c, o, vs, t, rfl, k _ (.head _), e2, e3⟩⟩
    rw [List.mem_singleton.mp hp]
    refine ⟨e1, (by rintro rfl; rw [hL] at hn; cases hn), ?_⟩
    cases e : h₀.get? c with
    | none => rfl
    | some o => rw [F.keep _ _ e] at hn; cases hn
  · refine ⟨[], (fun p hp => by cases hp), fun h₂ _ k => ?_⟩
    rcases x with e | ⟨c2, e4, _, r⟩
    · rw [e] at hp; cases hp
    rw [e4] at hp
    have e5 : c2 = c := by simpa using hp
    exact (e5 ▸ r).keeps k

theorem fresh_back {s h₀ h : Heap} {L c : Addr} {m : Str → Option Value} {news : List (Addr × Obj)} {o1 o2 o3 : Obj} (hh : ∀ x o, s.get? x = some o → h₀.get? x = none → x = 80 ∨ x = 73 ∨ x = c) (F : Fr h₀ L h m) (N : News h₀ L h news) (m1 : ((80 : Addr), o1) ∈ news) (m2 : ((73 : Addr), o2) ∈ news) (m3 : (c, o3) ∈ news) : ∀ x, h.get? x = none → s.get? x = none := fun x hx => by
  cases e : s.get? x with
  | none => rfl
  | some o =>
    cases q : h₀.get? x with
    | some o' => rw [F.keep _ _ q] at hx; cases hx
    | none =>
      rcases hh x o e q with r | r | r
      · rw [r, (N _ m1).1] at hx; cases hx
      · rw [r, (N _ m2).1] at hx; cases hx
      · rw [r, (N _ m3).1] at hx; cases hx

theorem divmod_spec : ∀ {w : World} {dp un : Nat} {fr : Option (List Env)} {gd : Option (List Code)} {E : Value → Shared → Prop} {s : Shared} {g : Heap} {p : Program} {loose : List Str} {mean : ExcName → Option Value} {mg mb : Str → Option Value} {Q : Value → Shared → Prop} {a b : Int} {t u : Tok} {ps80 ps73 : Array Value},
    (Mine.hd.heap_39 w.params).In g → Top p loose mean mg mb g → g.StaysIn s.heap → g.get? 80 = none → g.get? 73 = none → TabSt s.heap 80 ps80 81 4 qD → TabSt s.heap 73 ps73 66 4 qI → (∀ c, ps73 = #[rawInt (66 : Nat), rawInt (4 : Nat), .ref c] → g.get? c = none) →
    0 < b → b < 2 ^ 200 → 0 ≤ a → a < 2 ^ (Builtin.Int.intBits b * 16) → dp + 60 < recursionLimit → un + 2000 < cLine →
    (∀ h' tk x t1 t2 c80 c73, (∀ b o, b ≠ 80 → b ≠ 73 → s.heap.get? b = some o → h'.get? b = some o) → TabFull h' 80 c80 81 4 qD → TabOld s.heap ps80 c80 81 4 → TabFull h' 73 c73 66 4 qI → TabOld s.heap ps73 c73 66 4 → s.heap.get? x = none →
      h'.get? x = some { cls := .type "tuple", data := .seq #[.int (a / b) t1, .int (a % b) t2] } → Q (.ref x) { s with heap := h', toks := tk }) →
    wpAny (model PySem.Challenge.rw_xe0036_01.row.prog w) (AA dp un fr gd) (call (.ref 92) [.int a t, .int b u]) Q E s := by
  k_fill
  intro w dp un fr gd E s g p loose mean mg mb Q a b t u ps80 ps73 X T hg hP80 hP73 hT80 hT73 hcg hb0 hb1 ha0 ha1 hdp hun hQ
  obtain ⟨tl, htl1, htl2, htl3⟩ := tl_of hT73
  have hKL : ∀ x o, x ≠ 80 → x ≠ 73 → (∀ p ∈ tl, x ≠ p.1) → s.heap.get? x = some o → (hideAll s.heap (((80, tabObj ps80) :: (73, tabObj ps73) :: tl).map (·.1))).get? x = some o := fun x o h1 h2 h3 e => hideAll_get _ e (fun q => by
    rcases List.mem_cons.mp q with q | q
    · exact h1 q
    rcases List.mem_cons.mp q with q | q
    · exact h2 q
    obtain ⟨p, hp, e⟩ := List.mem_map.mp q
    exact h3 p hp e.symm)
  have hgL : ∀ x o, g.get? x = some o → (hideAll s.heap (((80, tabObj ps80) :: (73, tabObj ps73) :: tl).map (·.1))).get? x = some o := fun x o e => hKL x o (by rintro rfl; rw [hP80] at e; cases e) (by rintro rfl; rw [hP73] at e; cases e)
    (fun p hp q => by rw [q, hcg p.1 (htl2 p hp)] at e; cases e) (hg x o e)
  refine call_fnN (cl := []) (binds := [(Str.ofString "a", .int a t), (Str.ofString "b", .int b u)]) ((80, tabObj ps80) :: (73, tabObj ps73) :: tl) (fun p hp => ?hl) (T.nolimit.keeps hg) (hg _ _ (X 92 _ (by rfl))) (by rfl) (codeRec_of (X.keeps hg) (by kernel_rfl)) (by show dp < _; lia) (by rfl) (locs rfl) fun h₁ tk E' F N => ?_
  case hl =>
    rcases List.mem_cons.mp hp with rfl | hp
    · exact hT80.1
    rcases List.mem_cons.mp hp with rfl | hp
    · exact hT73.1
    exact htl1 p hp
  have X0 := X.keeps hgL
  have T0 := T.keeps hgL
  generalize hh0 : hideAll s.heap _ = h₀ at N F X0 T0 hKL
  have hn0 : (0 : Int) < (Builtin.Int.intBits b : Int) := by
    rcases Nat.eq_zero_or_pos (Builtin.Int.intBits b) with e | e
    · have := lt_bits (Int.le_of_lt hb0); rw [e] at this; simp at this; lia
    · lia
  have hn1 : (Builtin.Int.intBits b : Int) ≤ 200 := by
    have := bits_le (Int.le_of_lt hb0) hb1
    lia
  have hbn : b < 2 ^ (Builtin.Int.intBits b) := lt_bits (Int.le_of_lt hb0)
  iterate 18 walk1
  rename Fr _ _ _ _ => F1
  rename News _ _ _ _ => N1
  have h80n : h₀.get? 80 = none := (N1 _ (.head _)).2.2
  have h73n : h₀.get? 73 = none := (N1 _ (.tail _ (.head _))).2.2
  have hkF1 := F1.keep
  refine ⟨X0.keeps F1.keep, ?_⟩
  refine i2d_spec (g := h₀) (ps := ps73) (dp := dp + 1) (un := un + 3) X0 T0 ?i1 h73n ?i2 hn0 hn1 ha0 ?i3 ?i4 ?i5 fun h₂ tk₂ x vs c es c73 hk2 hF2 hO2 hx2 hx2' hI2 hv2 hb2 hl2 => ?_
  case i1 => exact F1.keep
  case i2 => exact tab_here N1 (.tail _ (.head _)) (fun p hp => .tail _ (.tail _ hp)) hT73 htl1 htl3
  case i3 => simpa using ha1
  case i4 => lia
  case i5 => lia
  obtain ⟨o73, hco, htl73, N2⟩ := after_i2d F1 N1 hk2 (by decide) hF2 hO2 hx2 hx2' htl3 htl2
  have F2 := fr_but F1 hk2 h73n (fun q => by have := N1 _ (.tail _ (.head _)); exact this.2.1 q.symm)
  clear F1 N1
  dsimp only
  iterate 14 walk1
  refine wpAny_For ?_
  iterate 7 walk1
  rename Fr _ _ _ _ => F3
  rename News _ _ _ _ => N3
  obtain ⟨I, hIe⟩ : ∃ I, I = adr1 N3 := ⟨_, rfl⟩
  obtain ⟨qd, hqe⟩ : ∃ I, I = adr2 N3 := ⟨_, rfl⟩
  unfold adr1 at hIe
  unfold adr2 at hqe
  dsimp only at hIe hqe
  subst hIe hqe
  have hI3 := N3 _ (.head _)
  have hq3 := N3 _ (.tail _ (.head _))
  have hx3 := N3 _ (.tail _ (.tail _ (.head _)))
  dsimp only at hI3 hq3 hx3
  obtain ⟨m3, hm3⟩ : ∃ m3, m3 = mOf F3 := ⟨_, rfl⟩
  have hxl : Heap.IsList _ x vs.toArray := ⟨_, hx3.1, rfl, _, rfl⟩
  have hlen2 := hI2.length
  obtain ⟨nb, hnb⟩ : ∃ nb : Nat, nb = Builtin.Int.intBits b := ⟨_, rfl⟩
  refine iterRev_J (vs := vs) rfl hI3.2.2 hI3.2.1 ⟨_, hI3.1, rfl, rfl⟩ hxl hx3.2.1 F3 N3 (fun i m nw => ∃ rv tr qv av vsq nq qs, m = (fun y => if y = Str.ofString "r" then some (.int rv tr) else if y = Str.ofString "q_digit" then qv else if y = Str.ofString "a_digit" then av else m3 y)
    ∧ (qd, PySem.W.listOf (List.toArray vsq) nq) ∈ nw ∧ (x, PySem.W.listOf vs.toArray c) ∈ nw ∧ (80, tabObj ps80) ∈ nw ∧ (73, tabObj #[rawInt (66 : Nat), rawInt (4 : Nat), Value.ref c73]) ∈ nw ∧ (c73, o73) ∈ nw
    ∧ IntsAre vsq qs ∧ hv nb (es.drop (es.length - i)) = hv nb qs.reverse * b + rv ∧ 0 ≤ rv ∧ rv < b ∧ qs.length = i ∧ (∀ y ∈ qs, 0 ≤ y ∧ y < 2 ^ nb)) ?mono ?start ?turn ?done
  case mono =>
    rintro i m nw nw' ⟨rv, tr, qv, av, vsq, nq, qs, e, k1, k2, k3, k4, k5, r⟩ hk
    refine ⟨rv, tr, qv, av, vsq, nq, qs, e, hk _ k1 (.inl rfl), hk _ k2 (.inl rfl), hk _ k3 (.inl rfl), hk _ k4 (.inl rfl), hk _ k5 (.inl ?_), r⟩
    obtain ⟨fs, ft, e1, e2⟩ := hco
    unfold notIt
    rw [e1]
    cases o73.cls <;> simp [e2, isNameV]
  case start =>
    refine ⟨0, _, none, none, [], 0, [], by subst hm3; exact norm_in (m := mOf F3) rfl rfl rfl, .tail _ (.head _), .tail _ (.tail _ (.head _)), .tail _ (.tail _ (.tail _ (.head _))), .tail _ (.tail _ (.tail _ (.tail _ (.head _)))), .tail _ (.tail _ (.tail _ (.tail _ (.tail _ (.head _))))), .nil, ?_, by lia, hb0, rfl, fun y hy => nomatch hy⟩
    simp [hv]
  case done =>
    rintro m₁ news₁ h tk ⟨rv, tr, qv, av, vsq, nq, qs, rfl, hm1, hm2, hm3', hm4, hm5, hIq, hrel, hr0, hr1, hql, hqb⟩ F N
    rw [hm3] at F
    dsimp only [mOf] at F
    have N' : News h₀ s.heap.objs.size h [(qd, PySem.W.listOf (List.toArray vsq) nq), (x, PySem.W.listOf vs.toArray c), (80, tabObj ps80), (73, tabObj #[rawInt (66 : Nat), rawInt (4 : Nat), Value.ref c73]), (c73, o73)] := List.forall_mem_cons.mpr ⟨N _ hm1, List.forall_mem_cons.mpr ⟨N _ hm2, List.forall_mem_cons.mpr ⟨N _ hm3', List.forall_mem_cons.mpr ⟨N _ hm4, List.forall_mem_cons.mpr ⟨N _ hm5, fun p hp => nomatch hp⟩⟩⟩⟩⟩
    clear N
    dsimp only
    iterate 6 walk1
    rename Fr _ _ _ _ => F4
    rename News _ _ _ _ => N4
    have hvl : vsq.length ≤ 16 := by
      have h1 := hIq.length
      lia
    refine kl_reverse (its := vsq.toArray) (l := vsq.reverse) F4 N4 (by simp) (by k_upd) (by simp [sizeLine_eq]; lia) (fun h₅ F5 N5 => ?_)
    clear F4 N4
    iterate 11 walk1
    rename Fr _ _ _ _ => F6
    rename News _ _ _ _ => N6
    have hhid : ∀ x o, s.heap.get? x = some o → h₀.get? x = none → x = 80 ∨ x = 73 ∨ x = c73 := fun x o e n => by
      by_cases q1 : x = 80
      · exact .inl q1
      by_cases q2 : x = 73
      · exact .inr (.inl q2)
      by_cases q3 : x = c73
      · exact .inr (.inr q3)
      rw [hKL x o q1 q2 (fun p hp q => q3 (by rw [q, htl73 p hp])) e] at n
      cases n
    have hfb := fresh_back hhid F6 N6 (.tail _ (.tail _ (.head _))) (.tail _ (.tail _ (.tail _ (.head _)))) (.tail _ (.tail _ (.tail _ (.tail _ (.head _)))))
    have ht80 : TabSt _ 80 ps80 81 4 qD := ⟨(N6 _ (.tail _ (.tail _ (.head _)))).1, (tab80_code hT80 hT73 htl2 hKL).imp id fun ⟨c, e1, e2, r⟩ => ⟨c, e1, e2, r.keeps F6.keep⟩⟩
    refine d2i_spec (g := h₀) (ps := ps80) (d := qd) (vs := vsq.reverse) (ns := qs.reverse) (dp := dp + 1) (un := un + 3) X0 T0 ?j1 h80n ?j2 ?j3 (ints_rev hIq) ?j4 ?j5 hn0 hn1 (by lia) (by lia) fun h₇ tk₇ t₇ c80 hk7 hF7 hO7 => ?_
    case j1 => exact F6.keep
    case j2 => exact ht80
    case j3 => exact ⟨_, (N6 _ (.head _)).1, rfl, _, rfl⟩
    case j4 =>
      intro y hy
      have ⟨q0, q1⟩ := hqb y (List.mem_reverse.mp hy)
      have h1 : (2 : Int) ^ nb ≤ 2 ^ 200 := by
        have := Nat.pow_le_pow_right (show 0 < 2 by decide) (show nb ≤ 200 by lia)
        exact_mod_cast this
      exact ⟨q0, by lia⟩
    case j5 => rw [List.length_reverse]; lia
    have hps80 : ps80 = #[] ∨ ∃ c, ps80 = #[rawInt (81 : Nat), rawInt (4 : Nat), .ref c] := by
      rcases hT80.2 with e | ⟨c, e, _⟩
      · exact .inl e
      · exact .inr ⟨c, e⟩
    have hc7380 : c73 ≠ 80 := news_ne N6 (.tail _ (.tail _ (.tail _ (.tail _ (.head _))))) (.tail _ (.tail _ (.head _))) (tab_ne_code hps80 hco)
    have hL80 : s.heap.objs.size ≠ 80 := Ne.symm (N6 _ (.tail _ (.tail _ (.head _)))).2.1
    have hqd80 : qd ≠ 80 := by k_ne
    obtain ⟨ex, Nex, hex⟩ := code_kept F6 hF7 hO7 (tab80_code hT80 hT73 htl2 hKL)
    have F7 := fr_but F6 hk7 h80n hL80
    have N7 : News h₀ s.heap.objs.size h₇ ((80, tabObj #[rawInt (81 : Nat), rawInt (4 : Nat), Value.ref c80]) :: (73, tabObj #[rawInt (66 : Nat), rawInt (4 : Nat), Value.ref c73]) :: (c73, o73) :: ex) := fun p hp => by
      rcases List.mem_cons.mp hp with rfl | hp
      · exact ⟨hF7.1, (N6 _ (.tail _ (.tail _ (.head _)))).2⟩
      rcases List.mem_cons.mp hp with rfl | hp
      · have := N6 _ (.tail _ (.tail _ (.tail _ (.head _))))
        exact ⟨hk7 _ _ (show (73 : Addr) ≠ 80 by decide) this.1, this.2⟩
      rcases List.mem_cons.mp hp with rfl | hp
      · have := N6 _ (.tail _ (.tail _ (.tail _ (.tail _ (.head _)))))
        exact ⟨hk7 _ _ hc7380 this.1, this.2⟩
      exact Nex p hp
    clear F6 N6
    dsimp only
    repeat walk1
    rename Fr _ _ _ _ => F8
    rename News _ _ _ _ => N8
    have hes : es.drop (es.length - vs.length) = es := by rw [hlen2, Nat.sub_self, List.drop_zero]
    rw [hes, hnb, ← hnb] at hrel
    rw [Int.toNat_natCast, ← hnb] at hv2 N8
    have hab : a / b = hv nb qs.reverse ∧ a % b = rv := by
      rw [Int.ediv_emod_unique hb0]
      refine ⟨?_, hr0, hr1⟩
      rw [← hv2, hrel, Int.mul_comm, Int.add_comm]
    rw [← hab.1, ← hab.2] at N8
    have hD := N8 _ (.head _)
    have h80' := N8 _ (.tail _ (.head _))
    have h73' := N8 _ (.tail _ (.tail _ (.head _)))
    have hc73' := N8 _ (.tail _ (.tail _ (.tail _ (.head _))))
    obtain ⟨fs, ft, k1, k2⟩ := hco
    refine hQ _ _ _ _ _ c80 c73 (fun b o q1 q2 e => ?_) ⟨h80'.1, hF7.2.1, hex _ (fun p hp => (N8 _ (.tail _ (.tail _ (.tail _ (.tail _ hp))))).1) F8.keep⟩ ?_ ⟨h73'.1, hF2.2.1, c73, o73, fs, ft, rfl, hc73'.1, k1, k2⟩ ?_ ?_ hD.1
    · by_cases q3 : b = c73
      · subst q3
        cases tl with
        | nil =>
          rw [hKL b o q1 q2 (fun p hp => by cases hp) e] at hc73'
          cases hc73'.2.2
        | cons p r =>
          have e1 := htl1 p (.head _)
          rw [htl73 p (.head _)] at e1
          rw [e] at e1
          rw [Option.some.inj e1]
          exact hc73'.1
      · exact F8.keep _ _ (hKL b o q1 q2 (fun p hp q => q3 (by rw [q, htl73 p hp])) e)
    · rcases hO7 with ⟨e1, e2⟩ | e
      · exact .inl ⟨e1, hfb _ e2⟩
      · exact .inr e
    · rcases hO2 with ⟨e1, e2⟩ | e
      · refine .inl ⟨e1, ?_⟩
        cases q : s.heap.get? c73 with
        | none => rfl
        | some o =>
          rw [hKL c73 o hc7380 hF2.2.1 (fun p hp _ => by have := htl2 p hp; rw [e1] at this; cases this) q] at hc73'
          cases hc73'.2.2
      · exact .inr e
    · cases q : s.heap.get? (adr1 N8) with
      | none => exact q
      | some o =>
        rcases hhid _ o q hD.2.2 with r | r | r
        · exact absurd r (news_ne N8 (.head _) (.tail _ (.head _)) (by simp))
        · exact absurd r (news_ne N8 (.head _) (.tail _ (.tail _ (.head _))) (by simp))
        · exact absurd r (news_ne N8 (.head _) (.tail _ (.tail _ (.tail _ (.head _)))) (by rw [k1]; simp))
  case turn =>
    rintro i v m₁ news₁ h tk own E₁ hvi ⟨rv, tr, qv, av, vsq, nq, qs, rfl, hm1, hm2, hm3', hm4, hm5, hIq, hrel, hr0, hr1, hql, hqb⟩ ho F N
    refine turn_gen fun Qt1 hQt1 => ?_
    obtain ⟨dg, td, rfl, hdg⟩ := ints_at (ints_rev hI2) hvi
    rw [hm3] at F
    dsimp only [mOf] at F
    have N' : News h₀ s.heap.objs.size h ((qd, PySem.W.listOf (List.toArray vsq) nq) :: (x, PySem.W.listOf vs.toArray c) :: (80, tabObj ps80) :: (73, tabObj #[rawInt (66 : Nat), rawInt (4 : Nat), Value.ref c73]) :: (c73, o73) :: own) := List.forall_mem_cons.mpr ⟨N _ (List.mem_append_left _ hm1), List.forall_mem_cons.mpr ⟨N _ (List.mem_append_left _ hm2), List.forall_mem_cons.mpr ⟨N _ (List.mem_append_left _ hm3'), List.forall_mem_cons.mpr ⟨N _ (List.mem_append_left _ hm4), List.forall_mem_cons.mpr ⟨N _ (List.mem_append_left _ hm5), fun p hp => N p (List.mem_append_right _ hp)⟩⟩⟩⟩⟩
    have hoff : OwnOff own [qd] := fun p hp b hb => by
      rw [List.mem_singleton.mp hb]
      rcases ho p hp with e | e <;> rw [e] <;> k_ne
    clear N
    iterate 12 walk1
    have hrb := bits_le hr0 (Int.lt_trans hr1 hb1)
    refine lshift_int (by lia) (by lia) ?_
    iterate 7 walk1
    have e2 : rv * 2 ^ ((Builtin.Int.intBits b : Int)).toNat + dg = rv * 2 ^ nb + dg := by rw [hnb]; rfl
    rw [e2]
    have hdm : dg ∈ es := List.mem_reverse.mp (List.mem_of_getElem? hdg)
    have ⟨hd0, hd1⟩ := hb2 dg hdm
    rw [Int.toNat_natCast, ← hnb] at hd1
    have ⟨hs0, hs1⟩ := step_bounds hr0 hr1 hd0 hd1
    have hbn2 : b * 2 ^ nb < 2 ^ 2000 := by
      have hnb2 : nb ≤ 200 := by lia
      have h1 : (2 : Int) ^ nb ≤ 2 ^ 200 := by
        have := Nat.pow_le_pow_right (show 0 < 2 by decide) hnb2
        exact_mod_cast this
      have h2 : b * 2 ^ nb ≤ 2 ^ 200 * 2 ^ 200 := Int.mul_le_mul (by lia) h1 (Int.pow_nonneg (by decide)) (by decide)
      have h3 : (2 : Int) ^ 200 * 2 ^ 200 < 2 ^ 2000 := by decide +kernel
      lia
    rename Fr _ _ _ _ => F4
    rename News _ _ _ _ => N4
    refine ⟨X0.keeps F4.keep, ?_⟩
    refine div_spec (dp := dp + 1) (un := un + 3) (by exact X0.keeps F4.keep) (topRead_of (T0.keeps F4.keep)) hs0 hb0 (by lia) (Int.lt_trans hb1 (by decide +kernel)) (by lia) (by lia) (by lia) fun h₅ tk₅ x5 t5 t6 hs₅ hx5 hx5' => ?_
    have N5 := news_new F4 (N4.grown hs₅) hx5 hx5'
    have F5 := F4.keeps hs₅
    have hx5q : x5 ≠ qd := by
      rintro rfl
      rw [show _ = some _ from (N4 _ (.head _)).1] at hx5; cases hx5
    clear F4 N4
    dsimp only
    repeat walk1
    rename Fr _ _ _ _ => F6
    rename News _ _ _ _ => N6
    have hvl : vsq.length ≤ 16 := by
      have h1 := hIq.length
      have h2 := (List.getElem?_eq_some_iff.mp hvi).1
      rw [List.length_reverse] at h2
      lia
    refine append_K F6 N6 (by k_upd) (fun h₇ F7 N7 => ?_) (by rw [List.size_toArray, sizeLine_eq]; lia)
    rw [List.push_toArray] at N7
    clear F6 N6
    walk1
    refine wpAny_execs_nil ?_
    refine hQt1 _ ?_
    refine LoopEnd.intro F7 N7 (fun p hp => .tail _ (.tail _ (.tail _ (.tail _ (.tail _ (.tail _ hp)))))) ?_
    refine ⟨_, _, _, _, _, _, qs ++ [(rv * 2 ^ nb + dg) / b], by rw [hm3]; exact norm3, .tail _ (.head _), .tail _ (.tail _ (.head _)), .tail _ (.tail _ (.tail _ (.head _))), .tail _ (.tail _ (.tail _ (.tail _ (.head _)))), .tail _ (.tail _ (.tail _ (.tail _ (.tail _ (.head _))))), ints_app hIq (.cons _ _ .nil), ?_, Int.emod_nonneg _ (by lia), Int.emod_lt_of_pos _ hb0, by simp [hql], fun y hy => ?_⟩
    · rw [drop_step hdg, hv, hrel, List.reverse_append]
      exact rel_step
    · rcases List.mem_append.mp hy with hy | hy
      · exact hqb y hy
      · rw [List.mem_singleton.mp hy]
        exact ⟨Int.ediv_nonneg hs0 (by lia), Int.ediv_lt_of_lt_mul hb0 (by have := hs1; rw [Int.mul_comm b] at this; exact this)⟩
end Mine
end
section
theorem Mine.startComps : True := by
  w_top off
  trivial
open PySem PySem.Spec PySem.Calls PyProof.Rows PySem.W
set_option maxRecDepth 100000
namespace Mine
section
variable {α : Type} {a b c d e f g k l : α} {r : List α}
theorem mm0 : a ∈ a :: r := .head _
theorem mm1 : b ∈ a :: b :: r := .tail _ mm0
theorem mm2 : c ∈ a :: b :: c :: r := .tail _ mm1
theorem mm3 : d ∈ a :: b :: c :: d :: r := .tail _ mm2
theorem mm4 : e ∈ a :: b :: c :: d :: e :: r := .tail _ mm3
theorem mm5 : f ∈ a :: b :: c :: d :: e :: f :: r := .tail _ mm4
theorem mm6 : g ∈ a :: b :: c :: d :: e :: f :: g :: r := .tail _ mm5
theorem mm7 : k ∈ a :: b :: c :: d :: e :: f :: g :: k :: r := .tail _ mm6
theorem mm8 : l ∈ a :: b :: c :: d :: e :: f :: g :: k :: l :: r := .tail _ mm7
end
section
variable {prog : Program} {w : World} {A : Around} {h₀ : Heap} {L : Addr} {m : Str → Option Value} {env : Env} {ct elt : Expr} {x : Str} {scope : Scope} {cl : List (Str × Addr)} {s : Shared} {S : List (Addr × Obj) → Prop} {P : Nat → Value → Prop} {Fin : List Value → List (Addr × Obj) → Prop} {news : List (Addr × Obj)}

theorem rest_J {n : Nat} (J : Nat → List Value → List (Addr × Obj) → Prop) (h0 : J 0 [] news)
    (turn : ∀ i v I oI C oC D m₂ ys nw h tk (E' : Value → Shared → Prop), i < n → P i v → J i ys nw → LCg.NsObj oC m₂ → m₂ x = some v → Fr h₀ L h m → News h₀ L h ((I, oI) :: (C, oC) :: (D, LCg.lst ys) :: nw) → LCg.Off3 I C D nw → ((@Ne Nat I C) ∧ (@Ne Nat I D) ∧ (@Ne Nat C D)) →
      wpAny (model prog w) A (eval elt (compEnvC scope cl C env)) (LCg.CompEnd h₀ L m { s with heap := h, toks := tk } I oI C oC D (LCg.lst ys) S (fun y nw' => J (i + 1) (ys ++ [y]) nw')) E' { s with heap := h, toks := tk })
    (fin : ∀ ys nw, J n ys nw → Fin ys nw) : LCg.CompRest prog w A h₀ L m env elt x scope cl s S P Fin n 0 [] news := by
  have key : ∀ (j i : Nat) (ys : List Value) (nw : List (Addr × Obj)), i + j = n → J i ys nw → LCg.CompRest prog w A h₀ L m env elt x scope cl s S P Fin j i ys nw := by
    intro j
    induction j with
    | zero =>
      intro i ys nw hi hj
      have e : i = n := by lia
      subst e
      exact LCg.CompRest.zero (fin ys nw hj)
    | succ j ih =>
      intro i ys nw hi hj
      refine LCg.CompRest.succ ?_
      intro v I oI C oC D m₂ h tk E' hv hC hx F N off ne
      refine wpAny_mono (turn i v I oI C oC D m₂ ys nw h tk E' (by lia) hv hj hC hx F N off ne) (fun y s₂ hq => ?_) fun _ _ e => e
      obtain ⟨h', tk', nw', e, F', N', off', hS, hj'⟩ := hq
      exact ⟨h', tk', nw', e, F', N', off', hS, ih (i + 1) _ _ (by lia) hj'⟩
  exact key n 0 [] news (by lia) h0

theorem restT_J {n : Nat} (J : Nat → List Value → List (Addr × Obj) → Prop) (h0 : J 0 [] news)
    (turn : ∀ i v I oI C oC D m₂ ys nw h tk (E' : Value → Shared → Prop), i < n → P i v → J i ys nw → LCg.NsObj oC m₂ → m₂ x = some v → Fr h₀ L h m → News h₀ L h ((I, oI) :: (C, oC) :: (D, LCg.lst ys) :: nw) → LCg.Off3 I C D nw → ((@Ne Nat I C) ∧ (@Ne Nat I D) ∧ (@Ne Nat C D)) →
      wpAny (model prog w) A (isTrue ct (compEnvC scope cl C env) (eval ct (compEnvC scope cl C env))) (fun b s' => if b = true then wpAny (model prog w) A (eval elt (compEnvC scope cl C env)) (LCg.CompEnd h₀ L m { s with heap := h, toks := tk } I oI C oC D (LCg.lst ys) S (fun y nw' => J (i + 1) (ys ++ [y]) nw')) E' s'
        else LCg.CompEnd h₀ L m { s with heap := h, toks := tk } I oI C oC D (LCg.lst ys) S (fun _ nw' => J (i + 1) ys nw') Value.none s') E' { s with heap := h, toks := tk })
    (fin : ∀ ys nw, J n ys nw → Fin ys nw) : LCt.CompRestT prog w A h₀ L m env ct elt x scope cl s S P Fin n 0 [] news := by
  have key : ∀ (j i : Nat) (ys : List Value) (nw : List (Addr × Obj)), i + j = n → J i ys nw → LCt.CompRestT prog w A h₀ L m env ct elt x scope cl s S P Fin j i ys nw := by
    intro j
    induction j with
    | zero =>
      intro i ys nw hi hj
      have e : i = n := by lia
      subst e
      exact LCt.CompRestT.zero (fin ys nw hj)
    | succ j ih =>
      intro i ys nw hi hj
      refine LCt.CompRestT.succ ?_
      intro v I oI C oC D m₂ h tk E' hv hC hx F N off ne
      refine wpAny_mono (turn i v I oI C oC D m₂ ys nw h tk E' (by lia) hv hj hC hx F N off ne) (fun b s₂ hq => ?_) fun _ _ e => e
      cases b with
      | true =>
        simp only [if_true] at hq ⊢
        refine wpAny_mono hq (fun y s₃ hr => ?_) fun _ _ e => e
        obtain ⟨h', tk', nw', e, F', N', off', hS, hj'⟩ := hr
        exact ⟨h', tk', nw', e, F', N', off', hS, ih (i + 1) _ _ (by lia) hj'⟩
      | false =>
        simp only [Bool.false_eq_true, if_false] at hq ⊢
        obtain ⟨h', tk', nw', e, F', N', off', hS, hj'⟩ := hq
        exact ⟨h', tk', nw', e, F', N', off', hS, ih (i + 1) _ _ (by lia) hj'⟩
  exact key n 0 [] news (by lia) h0
end
section
variable {prog : Program} {w : World} {A : Around} {E : Value → Shared → Prop} {s : Shared} {h₀ : Heap} {L D : Addr} {m : Str → Option Value} {news news' : List (Addr × Obj)} {vs : List Value} {n : Nat} {k : Int} {t : Tok} {v : Value}
theorem newList_N {Q : Value → Shared → Prop} (hz : vs.length ≤ 1000) (F : Fr h₀ L s.heap m) (N : News h₀ L s.heap news) (h : ∀ h', Fr h₀ L h' m → News h₀ L h' ((s.heap.objs.size, PySem.W.listOf vs.toArray 0) :: news) → Q (.ref s.heap.objs.size) { s with heap := h' }) :
    wpAny (model prog w) A (newList vs) Q E s := by
  refine wpAny_newObj_type (h _ (F.push _) (fun p hp => ?_)) (by show vs.toArray.size ≤ sizeLine; rw [List.size_toArray, sizeLine_eq]; lia)
  rcases List.mem_cons.mp hp with rfl | hp
  · refine ⟨Heap.get?_push_size _ rfl, Ne.symm (Nat.ne_of_lt F.ns.lt), ?_⟩
    cases e : h₀.get? s.heap.objs.size with
    | none => rfl
    | some o => exact absurd (Heap.lt_size (F.keep _ _ e)) (Nat.lt_irrefl _)
  · exact ⟨Heap.get?_push_of_some _ (N p hp).1, (N p hp).2⟩
theorem setAt_K {Q : Unit → Shared → Prop} (F : Fr h₀ L s.heap m) (N : News h₀ L s.heap news) (U : Upd D (PySem.W.listOf vs.toArray n) (PySem.W.listOf (vs.set k.toNat v).toArray n) news news') (h0 : 0 ≤ k) (h1 : k < vs.length) (hfit : k < 2 ^ 63)
    (h : ∀ h', Fr h₀ L h' m → News h₀ L h' news' → Q () { s with heap := h' }) : wpAny (model prog w) A (setItem (.ref D) (.int k t) v) Q E s := by
  obtain ⟨pre, post, rfl, rfl, a, b⟩ := U.split
  have z := N (D, PySem.W.listOf vs.toArray n) (List.mem_append.mpr (.inr (.head _)))
  have hs : vs.toArray.size = vs.length := List.size_toArray
  refine ki_setAt z.1 h0 hfit (by lia) (h _ (F.change (Heap.SameBut.update ..) z.2.1 z.2.2) (ki_turn _ N a b ?_ ?_))
  · show vs.toArray.setIfInBounds k.toNat v = (vs.set k.toNat v).toArray
    apply Array.toList_inj.mp
    simp
  · simp
end
end Mine
end
section
theorem Mine.startOutline : True := by
  w_top off
  trivial
open PySem PySem.Spec PySem.Calls PyProof.Rows PySem.W
set_option maxRecDepth 100000
namespace Mine

noncomputable def kids (p : Int) : List (Array UInt8) → List Int → List (Array UInt8)
  | b :: ms, q :: ps => if q = p then b :: kids p ms ps else kids p ms ps
  | _, _ => []
theorem kids_snoc {p : Int} : ∀ {ms : List (Array UInt8)} {ps : List Int} {b : Array UInt8} {q : Int}, ms.length = ps.length → kids p (ms ++ [b]) (ps ++ [q]) = kids p ms ps ++ (if q = p then [b] else [])
  | [], [], b, q, _ => by simp [kids]
  | a :: ms, c :: ps, b, q, h => by
    have ih := kids_snoc (p := p) (ms := ms) (ps := ps) (b := b) (q := q) (by simpa using h)
    simp only [List.cons_append, kids, ih]
    split <;> simp
  | [], _ :: _, _, _, h => by simp at h
  | _ :: _, [], _, _, h => by simp at h
theorem flatB_cons (b : Array UInt8) (r : List (Array UInt8)) : flatB (b :: r) = b.toList ++ flatB r := by simp [flatB]
theorem kids_le {p : Int} : ∀ (ms : List (Array UInt8)) (ps : List Int), (flatB (kids p ms ps)).length ≤ (flatB ms).length ∧ (kids p ms ps).length ≤ ms.length
  | [], _ => by simp [kids]
  | b :: ms, [] => by simp [kids, flatB]
  | b :: ms, q :: ps => by
    have ⟨h1, h2⟩ := kids_le (p := p) ms ps
    simp only [kids]
    split
    · rw [flatB_cons, flatB_cons]; simp; lia
    · rw [flatB_cons]; simp; lia

theorem kids_take {p : Int} {ms : List (Array UInt8)} {ps : List Int} {j : Nat} {b : Array UInt8} {q : Int} (hb : ms[j]? = some b) (hq : ps[j]? = some q) : kids p (ms.take (j + 1)) (ps.take (j + 1)) = kids p (ms.take j) (ps.take j) ++ (if q = p then [b] else []) := by
  have h1 := (List.getElem?_eq_some_iff.mp hb).1
  have h2 := (List.getElem?_eq_some_iff.mp hq).1
  rw [List.take_add_one, List.take_add_one, hb, hq]
  exact kids_snoc (by simp; lia)

/-- the mails after i turns -/
noncomputable def mailsAt (rows : List (Array UInt8)) (pars : List Int) : Nat → List (Array UInt8)
  | 0 => rows
  | i + 1 =>
    let ms := mailsAt rows pars i
    let p := rows.length - 1 - i
    ms.set p (rows.getD p #[] ++ (quo true (flatB (kids (p : Int) (ms.drop (p + 1)) (pars.drop (p + 1))))).toArray)
theorem mailsAt_length (rows : List (Array UInt8)) (pars : List Int) : ∀ i, (mailsAt rows pars i).length = rows.length
  | 0 => rfl
  | i + 1 => by simp only [mailsAt, List.length_set]; exact mailsAt_length rows pars i
noncomputable def bnd : Nat → Nat
  | 0 => 0
  | i + 1 => 16 + 3 * bnd i
theorem bnd_le {i : Nat} (h : i ≤ 6) : bnd i ≤ 5824 := by
  have : i = 0 ∨ i = 1 ∨ i = 2 ∨ i = 3 ∨ i = 4 ∨ i = 5 ∨ i = 6 := by lia
  rcases this with rfl | rfl | rfl | rfl | rfl | rfl | rfl <;> decide
theorem mailsAt_size {rows : List (Array UInt8)} {pars : List Int} (hr : ∀ b ∈ rows, b.size ≤ 16) : ∀ i, i ≤ rows.length → (flatB ((mailsAt rows pars i).drop (rows.length - i))).length ≤ bnd i
  | 0, _ => by
    rw [List.drop_of_length_le (by rw [mailsAt_length]; lia)]
    simp [flatB, bnd]
  | i + 1, hi => by
    have ih := mailsAt_size hr (pars := pars) i (by lia)
    have hl := mailsAt_length rows pars i
    simp only [mailsAt]
    have e1 : rows.length - (i + 1) = rows.length - 1 - i := by lia
    rw [e1, List.drop_set, if_neg (by lia), Nat.sub_self]
    have hlt : rows.length - 1 - i < (mailsAt rows pars i).length := by lia
    rw [List.drop_eq_getElem_cons hlt, List.set_cons_zero, flatB_cons, List.length_append]
    have e2 : rows.length - 1 - i + 1 = rows.length - i := by lia
    rw [e2]
    have h1 := (kids_le (p := ((rows.length - 1 - i : Nat) : Int)) ((mailsAt rows pars i).drop (rows.length - i)) (pars.drop (rows.length - i))).1
    have h2 := quo_length (flatB (kids ((rows.length - 1 - i : Nat) : Int) ((mailsAt rows pars i).drop (rows.length - i)) (pars.drop (rows.length - i)))) true
    have h3 : (rows.getD (rows.length - 1 - i) #[]).size ≤ 16 := by
      rw [List.getD_eq_getElem?_getD, List.getElem?_eq_getElem (by lia : rows.length - 1 - i < rows.length)]
      exact hr _ (List.getElem_mem _)
    rw [Array.toList_append, List.length_append, Array.length_toList]
    simp only [bnd]
    lia
theorem bytes_set {b : Array UInt8} {u : Tok} : ∀ {vs : List Value} {bs : List (Array UInt8)}, BytesAre vs bs → ∀ j : Nat, BytesAre (vs.set j (.bytes b u)) (bs.set j b)
  | _, _, .nil, _ => .nil
  | _, _, .cons _ _ h, 0 => .cons b u h
  | _, _, .cons c t h, j + 1 => .cons c t (bytes_set h j)

/-- what `_law_outline` gives -/
noncomputable def outlineB (rows : List (Array UInt8)) (pars : List Int) : List UInt8 := quo true (flatB (kids (-1) (mailsAt rows pars rows.length) pars))
end Mine
end
section
theorem Mine.startSpecOutline : True := by
  w_top off
  trivial
open PySem PySem.Spec PySem.Calls PyProof.Rows PySem.W
set_option maxRecDepth 100000
set_option maxHeartbeats 4000000
namespace Mine

theorem down_size {n : Nat} (h : n ≤ 6) : Builtin.Range.rangeSize ((n : Int) - 1) (-1) (-1) = (n : Int) ∧ Builtin.Range.small ((n : Int) - 1) (-1) (-1) = true := by
  have : n = 0 ∨ n = 1 ∨ n = 2 ∨ n = 3 ∨ n = 4 ∨ n = 5 ∨ n = 6 := by lia
  rcases this with rfl | rfl | rfl | rfl | rfl | rfl | rfl <;> decide
theorem up_size {a b : Int} {n : Nat} (h : b - a = n) (ha : 0 ≤ a) (hb0 : 0 ≤ b) (ha2 : a ≤ 100) (hb : b ≤ 100) : Builtin.Range.rangeSize a b 1 = (n : Int) ∧ Builtin.Range.small a b 1 = true := by
  refine ⟨?_, small_one (by lia) (by lia) (by lia) (by lia)⟩
  rw [rangeSize_nat, h]
  rfl
theorem notIt_cell {o : Obj} {x : Option Value} (h : o.data = .cell x) : notIt o = true := by unfold notIt; rw [h]
theorem norm1 {a : Str} {A A' : Option Value} {m : Str → Option Value} : (fun y => if y = a then A else if y = a then A' else m y) = (fun y => if y = a then A else m y) := by
  funext y
  by_cases h1 : y = a <;> simp [h1]
theorem norm1_in {a : Str} {A : Option Value} {m : Str → Option Value} (h : m a = A) : m = (fun y => if y = a then A else m y) := by
  funext y
  by_cases e1 : y = a
  · subst e1; rw [if_pos rfl, h]
  rw [if_neg e1]
noncomputable def adrs {h₀ h : Heap} {L : Addr} {a b c d : Addr × Obj} (_ : News h₀ L h [a, b, c, d]) : Obj × Obj × Obj := (b.2, c.2, d.2)

theorem o_pl {v n i pl : Nat} (hv : v = n) (hi : i < v) (hp : pl = n - 1 - i) : (v : Int) - 1 + (i : Int) * (-1) = (pl : Int) ∧ pl < n ∧ n - i = pl + 1 := by lia
theorem o_j {v n p pl j : Nat} (hv : v = n) (hn : n = p) (h6 : n ≤ 6) (hpl : pl < n) (hj : j < v - (pl + 1)) : 0 ≤ (pl : Int) + 1 + (j : Int) ∧ (pl : Int) + 1 + (j : Int) < (p : Int) ∧ (pl : Int) + 1 + (j : Int) < 2 ^ 63 ∧ ((pl : Int) + 1 + (j : Int)).toNat = pl + 1 + j ∧ pl + 1 + j < p ∧ pl + 1 + j < n := by lia
theorem o_j0 {v n p j : Nat} (hv : v = n) (hn : n = p) (h6 : n ≤ 6) (hj : j < v) : 0 ≤ (0 : Int) + (j : Int) ∧ (0 : Int) + (j : Int) < (p : Int) ∧ (0 : Int) + (j : Int) < 2 ^ 63 ∧ ((0 : Int) + (j : Int)).toNat = j ∧ j < p ∧ j < n := by lia
theorem o_tk {v n p pl : Nat} (hv : v = n) (hn : n = p) : n - (pl + 1) ≤ v - (pl + 1) ∧ p - (pl + 1) ≤ v - (pl + 1) := by lia
theorem o_up {v n pl : Nat} (hv : v = n) (h6 : n ≤ 6) (hpl : pl < n) : ((v : Int) - ((pl : Int) + 1) = ((v - (pl + 1) : Nat) : Int)) ∧ 0 ≤ (pl : Int) + 1 ∧ (0 : Int) ≤ (v : Int) ∧ (pl : Int) + 1 ≤ 100 ∧ (v : Int) ≤ 100 ∧ v - (pl + 1) ≤ 16777216 := by lia
theorem outline_spec : ∀ {w : World} {dp un : Nat} {fr : Option (List Env)} {gd : Option (List Code)} {E : Value → Shared → Prop} {s : Shared} {p : Program} {loose : List Str} {mean : ExcName → Option Value} {mg mb : Str → Option Value} {Q : Value → Shared → Prop} {r q : Addr} {vr vq : List Value} {rows : List (Array UInt8)} {pars : List Int},
    (Mine.hd.heap_39 w.params).In s.heap → Top p loose mean mg mb s.heap → s.heap.IsList r vr.toArray → BytesAre vr rows → s.heap.IsList q vq.toArray → IntsAre vq pars → rows.length = pars.length → rows.length ≤ 6 → (∀ b ∈ rows, b.size ≤ 16) → dp + 4 < recursionLimit → un + 60 < cLine →
    (∀ h' tk t', s.heap.StaysIn h' → Q (.bytes (outlineB rows pars).toArray t') { s with heap := h', toks := tk }) →
    wpAny (model PySem.Challenge.rw_xe0036_01.row.prog w) (AA dp un fr gd) (call (.ref 109) [.ref r, .ref q]) Q E s := by
  k_fill
  intro w dp un fr gd E s p loose mean mg mb Q r q vr vq rows pars X T hr hbr hq hiq hlen hl6 hrz hdp hun hQ
  have hk0 : ∀ b o, s.heap.get? b = some o → (hideAll s.heap (([] : List (Addr × Obj)).map (·.1))).get? b = some o := fun b o e => hideAll_get _ e (fun q => nomatch q)
  refine call_fnC (binds := [(Str.ofString "rows", .ref r), (Str.ofString "parents", .ref q)]) [] (fun p hp => nomatch hp) T.nolimit (X 109 _ (by rfl)) (by rfl) (codeRec_of X (by kernel_rfl)) (by show dp < _; lia) (by rfl) (by rfl) (by decide) fun h₁ tk cells E' F N Y => ?_
  have X0 := X.keeps hk0
  have T0 := T.keeps hk0
  have hr0 : Heap.IsList _ r vr.toArray := let ⟨o, e, x⟩ := hr; ⟨o, hk0 _ _ e, x⟩
  have hq0 : Heap.IsList _ q vq.toArray := let ⟨o, e, x⟩ := hq; ⟨o, hk0 _ _ e, x⟩
  k_cells Y
  generalize hh0 : hideAll s.heap _ = h₀ at N F X0 T0 hr0 hq0 hk0
  dsimp only [List.map_cons, List.map_nil, List.cons_append, List.nil_append] at N F
  iterate 2 walk1
  refine LCg.ListComp_U (F₀ := F) (by with_unfolding_all rfl) (by decide) (by rfl) (by decide) (by rfl) ?_
  iterate 1 walk1
  have hvl := hbr.length
  refine LCg.CompSrc.base (by rfl) F N hr0 (by rw [List.size_toArray, sizeLine_eq]; lia) ?_
  intro g
  refine rest_J (fun i ys nw => nw = [(s.heap.objs.size + 1 + 1 + 1, _), (s.heap.objs.size + 1 + 1, _), (s.heap.objs.size + 1, _)] ∧ ys = vr.take i) ⟨rfl, rfl⟩ ?turn ?fin
  case turn =>
    rintro i v I oI C oC D m₂ ys nw h tk' E₁ hi hv ⟨rfl, rfl⟩ hC hx F₁ N₁ off ne
    simp only [LCg.Off3, and_true] at off
    walk1
    walk1
    refine ⟨rfl, ?_⟩
    have hv' : vr[i]? = some v := by simpa using hv
    rw [List.take_add_one, hv']
    rfl
  case fin =>
    rintro ys nw ⟨rfl, rfl⟩
    unfold LCg.FinE
    intro D h tk' F₁ N₁ off
    simp only [LCg.Off1, and_true] at off
    have e0 : List.take vr.toArray.size vr = vr := List.take_of_length_le (by simp)
    rw [e0] at N₁
    clear F N
    iterate 2 walk1
    refine wpAny_For ?_
    iterate 11 walk1
    rename Fr _ _ _ _ => F2
    rename News _ _ _ _ => N2
    refine len_list (Fr.lst F2 hr0) (by rw [List.size_toArray]; lia) ?_
    iterate 12 walk1
    rename IsRange _ _ _ _ _ _ _ _ => R
    rename Fr _ _ _ _ => F3
    rename News _ _ _ _ => N3
    obtain ⟨m3, hm3⟩ : ∃ m3, m3 = mOf F3 := ⟨_, rfl⟩
    have ⟨hrs, hrm⟩ := down_size (n := vr.length) (by lia)
    rw [show vr.toArray.size = vr.length from by simp] at R
    refine iterRange_J rfl R hrm hrs F3 N3 (fun i m nw => ∃ bel oP oM oQ vms c, m = (fun y => if y = Str.ofString "below" then bel else m3 y)
      ∧ (s.heap.objs.size + 1 + 1 + 1, oP) ∈ nw ∧ (s.heap.objs.size + 1 + 1, oM) ∈ nw ∧ (s.heap.objs.size + 1, oQ) ∈ nw ∧ (D, PySem.W.listOf (List.toArray vms) c) ∈ nw
      ∧ (∃ pv, oP.data = .cell pv) ∧ oM.data = .cell (some (.ref D)) ∧ oQ.data = .cell (some (.ref q)) ∧ BytesAre vms (mailsAt rows pars i)) ?mono ?start ?turn ?done
    case mono =>
      rintro i m nw nw' ⟨bel, oP, oM, oQ, vms, c, e, k1, k2, k3, k4, ⟨pv, d1⟩, d2, d3, r⟩ hk
      exact ⟨bel, oP, oM, oQ, vms, c, e, hk _ k1 (.inl (notIt_cell d1)), hk _ k2 (.inl (notIt_cell d2)), hk _ k3 (.inl (notIt_cell d3)), hk _ k4 (.inl rfl), ⟨pv, d1⟩, d2, d3, r⟩
    case start =>
      refine ⟨none, _, _, _, vr, _, by subst hm3; exact norm1_in (m := mOf F3) rfl, mm1, mm2, mm3, mm0, ⟨_, by assumption⟩, by assumption, by assumption, hbr⟩
    case done =>
      rintro m₁ news₁ h tk ⟨bel, oP, oM, oQ, vms, c, rfl, k1, k2, k3, k4, ⟨pv, d1⟩, d2, d3, hms⟩ F N
      rw [hm3] at F
      dsimp only [mOf] at F
      have N' : News h₀ s.heap.objs.size h [(s.heap.objs.size + 1 + 1 + 1, oP), (s.heap.objs.size + 1 + 1, oM), (s.heap.objs.size + 1, oQ), (D, PySem.W.listOf (List.toArray vms) c)] := List.forall_mem_cons.mpr ⟨N _ k1, List.forall_mem_cons.mpr ⟨N _ k2, List.forall_mem_cons.mpr ⟨N _ k3, List.forall_mem_cons.mpr ⟨N _ k4, fun p hp => nomatch hp⟩⟩⟩⟩
      clear N
      dsimp only
      iterate 8 walk1
      refine getMethod_join ?_
      iterate 2 walk1
      rename Fr _ _ _ _ => F4
      refine LCt.ListComp_T (F₀ := F4) (by with_unfolding_all rfl) (by decide) (by rfl) (by decide) (by rfl) ?_
      iterate 10 walk1
      rename Fr _ _ _ _ => F5
      refine len_list (Fr.lst F5 hr0) (by rw [List.size_toArray]; lia) ?_
      iterate 2 walk1
      rename IsRange _ _ _ _ _ _ _ _ => R2
      rename Fr _ _ _ _ => F6
      rename News _ _ _ _ => N6
      have ⟨hrs2, hrm2⟩ := up_size (a := 0) (n := vr.length) (b := vr.length) (by lia) (by lia) (by lia) (by lia) (by lia)
      refine LCt.CompSrcT.range (by rfl) F6 N6 R2 hrm2 hrs2 (by rw [sizeLine_eq]; lia) ?_
      intro g2
      refine restT_J (fun j ys nw => nw = [(s.heap.objs.size + 1 + 1 + 1, oP), (s.heap.objs.size + 1 + 1, oM), (s.heap.objs.size + 1, oQ), (D, PySem.W.listOf (List.toArray vms) c)] ∧
        BytesAre ys (kids (-1) ((mailsAt rows pars vr.length).take j) (pars.take j))) ⟨rfl, .nil⟩ ?cturn ?cfin
      case cturn =>
        rintro j v I oI C oC D2 m₂ ys nw h9 tk9 E₉ hj ⟨t9, rfl⟩ ⟨rfl, hys⟩ hC hx F₉ N₉ off ne
        refine compT_gen fun Qc1 Qc1F hQc1 hQc1F => ?_
        have off0 := off
        simp only [LCg.Off3] at off
        iterate 4 walk1
        rename IntsAre _ _ => hiq
        have ⟨q1, q2, q3, hKn, q4, q5⟩ := o_j0 hvl hlen hl6 hj
        refine item_anyK (Fr.lst F₉ hq0) hiq q1 q2 q3 (fun tq => ?_) (by with_unfolding_all rfl)
        have hml := mailsAt_length rows pars vr.length
        have hp1 : pars[j]? = some (pars.getD j 0) := by
          rw [List.getD_eq_getElem?_getD, List.getElem?_eq_getElem q4]
          rfl
        have hm1 : (mailsAt rows pars vr.length)[j]? = some ((mailsAt rows pars vr.length).getD j #[]) := by
          rw [List.getD_eq_getElem?_getD, List.getElem?_eq_getElem (by rw [hml]; exact q5)]
          rfl
        have hkt := kids_take (p := (-1 : Int)) hm1 hp1
        rw [hKn]
        iterate 5 walk1
        by_cases hpk : pars.getD j 0 = (-1 : Int)
        · refine ite_pos (by simpa using hpk) ?_
          rw [if_pos hpk] at hkt
          obtain ⟨tb, htb⟩ := hms.get _ _ hm1
          iterate 3 walk1
          refine item_listL (l := vms) ⟨_, (N₉ _ mm6).1, rfl, _, rfl⟩ q1 q3 (by rw [hKn]; exact htb) ?_
          refine hQc1 _ _ ?_
          refine LCg.CompEnd.intro F₉ N₉ _ (fun p hp => hp) off0 trivial ⟨rfl, ?_⟩
          rw [hkt]
          exact hys.append (.cons _ _ .nil)
        · refine ite_neg (by simpa using hpk) ?_
          rw [if_neg hpk, List.append_nil] at hkt
          refine hQc1F _ ?_
          refine LCg.CompEnd.intro F₉ N₉ _ (fun p hp => hp) off0 trivial ⟨rfl, ?_⟩
          rw [hkt]
          exact hys
      case cfin =>
        rintro ys nw ⟨rfl, hys⟩
        unfold LCg.FinE
        intro D2 h7 tk7 F7 N7 off7
        simp only [LCg.Off1] at off7
        rw [List.take_of_length_le (by rw [mailsAt_length]; lia), List.take_of_length_le (by lia)] at hys
        iterate 1 walk1
        have hkl := kids_le (p := (-1 : Int)) (mailsAt rows pars vr.length) pars
        have hms2 := mailsAt_size hrz (pars := pars) rows.length (Nat.le_refl _)
        rw [Nat.sub_self, List.drop_zero, ← hvl] at hms2
        have hb6 : bnd vr.length ≤ 5824 := bnd_le (by lia)
        refine join_flat ⟨_, (N7 _ mm0).1, rfl, _, rfl⟩ hys (by rw [hys.length, sizeLine_eq]; have := hkl.2; rw [mailsAt_length] at this; lia) (by rw [sizeLine_eq]; lia) (fun t' k => ?_)
        iterate 2 walk1
        refine quote_spec (dp := dp + 1) (un := un + 3) (by exact X0.keeps F7.keep) (topRead_of (T0.keeps F7.keep)) (by rw [List.size_toArray]; lia) (by lia) (by lia) fun h10 tk10 t10 hs10 => ?_
        have e9 : (quo true (flatB (kids (-1) (mailsAt rows pars vr.length) pars)).toArray.toList).toArray = (outlineB rows pars).toArray := by
          unfold outlineB
          rw [hvl]
        rw [e9]
        exact hQ _ _ _ (fun b o e => hs10 b o (F7.keep b o (hk0 b o e)))
    case turn =>
      rintro i tv m₁ news₁ h tk own E₁ hi ⟨bel, oP, oM, oQ, vms, c, rfl, k1, k2, k3, k4, ⟨pv, d1⟩, d2, d3, hms⟩ ho F N
      refine turn_gen fun Qt1 hQt1 => ?_
      rw [hm3] at F
      dsimp only [mOf] at F
      have N' : News h₀ s.heap.objs.size h ((s.heap.objs.size + 1 + 1 + 1, oP) :: (s.heap.objs.size + 1 + 1, oM) :: (s.heap.objs.size + 1, oQ) :: (D, PySem.W.listOf (List.toArray vms) c) :: own) := List.forall_mem_cons.mpr ⟨N _ (List.mem_append_left _ k1), List.forall_mem_cons.mpr ⟨N _ (List.mem_append_left _ k2), List.forall_mem_cons.mpr ⟨N _ (List.mem_append_left _ k3), List.forall_mem_cons.mpr ⟨N _ (List.mem_append_left _ k4), fun p hp => N p (List.mem_append_right _ hp)⟩⟩⟩⟩
      clear N
      obtain ⟨pl, hpl⟩ : ∃ pl : Nat, pl = rows.length - 1 - i := ⟨_, rfl⟩
      have ⟨hpl2, hpl3, hpl4⟩ := o_pl hvl hi hpl
      rw [hpl2]
      have hD1 := Heap.lt_size (N3 _ (.head _)).1
      have hD2 := Heap.lt_size (N3 _ (.tail _ (.head _))).1
      dsimp only at hD1 hD2
      have hoff : OwnOff own [s.heap.objs.size + 1 + 1 + 1, D] := fun p hp b hb => by
        rw [ho p hp]
        simp at hb
        rcases hb with rfl | rfl
        · exact Nat.ne_of_gt hD2
        · exact Nat.ne_of_gt hD1
      iterate 3 walk1
      rename_i hA oA F4 N4 d4
      refine LCt.Assign_ListComp_T (F₀ := F4) (by rfl) (by with_unfolding_all rfl) (by with_unfolding_all rfl) (by decide) (by rfl) (by decide) (by rfl) (by rfl) (by rfl) ?_
      iterate 15 walk1
      rename Fr _ _ _ _ => F5
      refine len_list (Fr.lst F5 hr0) (by rw [List.size_toArray]; lia) ?_
      iterate 2 walk1
      rename IsRange _ _ _ _ _ _ _ _ => R2
      rename Fr _ _ _ _ => F6
      rename News _ _ _ _ => N6
      have ⟨u1, u2, u3, u4, u5, u6⟩ := o_up hvl hl6 hpl3
      have ⟨hrs2, hrm2⟩ := up_size (a := (pl : Int) + 1) (n := vr.length - (pl + 1)) (b := vr.length) u1 u2 u3 u4 u5
      refine LCt.CompSrcT.range (by rfl) F6 N6 R2 hrm2 hrs2 (by rw [sizeLine_eq]; exact u6) ?_
      intro g2
      refine restT_J (fun j ys nw => nw = (s.heap.objs.size + 1 + 1 + 1, _) :: (s.heap.objs.size + 1 + 1, oM) :: (s.heap.objs.size + 1, oQ) :: (D, PySem.W.listOf (List.toArray vms) c) :: own ∧
        BytesAre ys (kids (pl : Int) (((mailsAt rows pars i).drop (pl + 1)).take j) ((pars.drop (pl + 1)).take j))) ⟨rfl, .nil⟩ ?cturn ?cfin
      case cturn =>
        rintro j v I oI C oC D2 m₂ ys nw h9 tk9 E₉ hj ⟨t9, rfl⟩ ⟨rfl, hys⟩ hC hx F₉ N₉ off ne
        refine compT_gen fun Qc1 Qc1F hQc1 hQc1F => ?_
        have off0 := off
        simp only [LCg.Off3] at off
        iterate 4 walk1
        rename IntsAre _ _ => hiq
        have ⟨q1, q2, q3, hKn, q4, q5⟩ := o_j hvl hlen hl6 hpl3 hj
        refine item_anyK (Fr.lst F₉ hq0) hiq q1 q2 q3 (fun tq => ?_) (by with_unfolding_all rfl)
        iterate 3 walk1
        have hml := mailsAt_length rows pars i
        have hp1 : (pars.drop (pl + 1))[j]? = some (pars.getD (pl + 1 + j) 0) := by
          rw [List.getElem?_drop, List.getD_eq_getElem?_getD, List.getElem?_eq_getElem q4]
          rfl
        have hm1 : ((mailsAt rows pars i).drop (pl + 1))[j]? = some ((mailsAt rows pars i).getD (pl + 1 + j) #[]) := by
          rw [List.getElem?_drop, List.getD_eq_getElem?_getD, List.getElem?_eq_getElem (by rw [hml]; exact q5)]
          rfl
        have hkt := kids_take (p := (pl : Int)) hm1 hp1
        rw [hKn]
        by_cases hpk : pars.getD (pl + 1 + j) 0 = (pl : Int)
        · refine ite_pos (by simpa using hpk) ?_
          rw [if_pos hpk] at hkt
          rw [List.getElem?_drop] at hm1
          obtain ⟨tb, htb⟩ := hms.get _ _ hm1
          iterate 3 walk1
          refine item_listL (l := vms) ⟨_, (N₉ _ mm6).1, rfl, _, rfl⟩ q1 q3 (by rw [hKn]; exact htb) ?_
          refine hQc1 _ _ ?_
          refine LCg.CompEnd.intro F₉ N₉ _ (fun p hp => hp) off0 trivial ⟨rfl, ?_⟩
          rw [hkt]
          exact hys.append (.cons _ _ .nil)
        · refine ite_neg (by simpa using hpk) ?_
          rw [if_neg hpk, List.append_nil] at hkt
          refine hQc1F _ ?_
          refine LCg.CompEnd.intro F₉ N₉ _ (fun p hp => hp) off0 trivial ⟨rfl, ?_⟩
          rw [hkt]
          exact hys
      case cfin =>
        rintro ys nw ⟨rfl, hys⟩
        unfold LCg.FinA
        intro D2 h7 tk7 F7 N7 off7
        simp only [LCg.Off1] at off7
        rw [List.take_of_length_le (by rw [List.length_drop, mailsAt_length]; exact (o_tk hvl hlen).1), List.take_of_length_le (by rw [List.length_drop]; exact (o_tk hvl hlen).2)] at hys
        iterate 6 walk1
        rename Fr _ _ _ _ => F8
        have hrow : rows[pl]? = some (rows.getD pl #[]) := by
          rw [List.getD_eq_getElem?_getD, List.getElem?_eq_getElem hpl3]
          rfl
        obtain ⟨tb, htb⟩ := hbr.get _ _ hrow
        refine item_listL (l := vr) (Fr.lst F8 hr0) (by lia) (by lia) (by rw [Int.toNat_natCast]; exact htb) ?_
        iterate 6 walk1
        refine getMethod_join ?_
        iterate 4 walk1
        rename Fr _ _ _ _ => F9
        rename News _ _ _ _ => N9
        have hkl := kids_le (p := (pl : Int)) ((mailsAt rows pars i).drop (pl + 1)) (pars.drop (pl + 1))
        have hms2 := mailsAt_size hrz (pars := pars) i (by lia)
        rw [hpl4] at hms2
        have hb6 : bnd i ≤ 5824 := bnd_le (by lia)
        refine join_flat ⟨_, (N9 _ mm0).1, rfl, _, rfl⟩ hys (by rw [hys.length, sizeLine_eq]; have := hkl.2; rw [List.length_drop, mailsAt_length] at this; lia) (by rw [sizeLine_eq]; lia) (fun t' k => ?_)
        iterate 2 walk1
        refine quote_spec (dp := dp + 1) (un := un + 3) (by exact X0.keeps F9.keep) (topRead_of (T0.keeps F9.keep)) (by rw [List.size_toArray]; lia) (by lia) (by lia) fun h10 tk10 t10 hs10 => ?_
        have F10 := F9.keeps hs10
        have N10 := N9.grown hs10
        clear F9 N9
        dsimp only
        have hql := quo_length (flatB (kids (pl : Int) ((mailsAt rows pars i).drop (pl + 1)) (pars.drop (pl + 1)))) true
        have hrz2 : (rows.getD pl #[]).size ≤ 16 := hrz _ (List.mem_of_getElem? hrow)
        refine KBy.add_bytes (by rw [List.size_toArray]; exact Nat.le_trans (Nat.add_le_add hrz2 hql) (by lia)) (fun t11 k11 => ?_)
        iterate 2 walk1
        rename Fr _ _ _ _ => F11
        rename News _ _ _ _ => N11
        have hvm := hms.length
        rw [mailsAt_length] at hvm
        refine setAt_K F11 N11 (by k_upd) (by lia) (by lia) (by lia) (fun h12 F12 N12 => ?_)
        repeat walk1
        refine hQt1 _ ?_
        refine LoopEnd.intro F12 N12 (fun p hp => .tail _ (.tail _ (.tail _ (.tail _ (.tail _ hp))))) ?_
        refine ⟨some (.ref D2), oA, oM, oQ, vms.set ((pl : Nat) : Int).toNat (Value.bytes (rows.getD pl #[] ++ (quo true (flatB (kids (pl : Int) ((mailsAt rows pars i).drop (pl + 1)) (pars.drop (pl + 1))))).toArray) t11), c, ?_, mm1, mm2, mm3, mm4, ⟨_, d4⟩, d2, d3, ?_⟩
        · rw [hm3]
          exact norm1
        have e7 : mailsAt rows pars (i + 1) = (mailsAt rows pars i).set pl (rows.getD pl #[] ++ (quo true (flatB (kids (pl : Int) ((mailsAt rows pars i).drop (pl + 1)) (pars.drop (pl + 1))))).toArray) := by
          rw [hpl]
          rfl
        have e8 := bytes_set (b := rows.getD pl #[] ++ (quo true (flatB (kids (pl : Int) ((mailsAt rows pars i).drop (pl + 1)) (pars.drop (pl + 1))))).toArray) (u := t11) hms pl
        rw [← e7] at e8
        exact e8
end Mine
end
section
theorem Mine.startShared : True := by
  w_top off
  trivial
open PySem PySem.Spec PySem.Calls PyProof.Rows PySem.W
set_option maxRecDepth 100000
namespace Mine

section
variable {a b c d : Str} {A B C D A' B' C' D' : Option Value} {m : Str → Option Value}
theorem n4_a : (fun y => if y = a then A else if y = a then A' else if y = b then B else if y = c then C else if y = d then D else m y) = (fun y => if y = a then A else if y = b then B else if y = c then C else if y = d then D else m y) := by
  funext y
  by_cases h1 : y = a <;> simp [h1]
theorem n4_b (h : b ≠ a) : (fun y => if y = b then B else if y = a then A else if y = b then B' else if y = c then C else if y = d then D else m y) = (fun y => if y = a then A else if y = b then B else if y = c then C else if y = d then D else m y) := by
  funext y
  by_cases h1 : y = a <;> by_cases h2 : y = b <;> simp_all
theorem n4_c (h : c ≠ a) (h' : c ≠ b) : (fun y => if y = c then C else if y = a then A else if y = b then B else if y = c then C' else if y = d then D else m y) = (fun y => if y = a then A else if y = b then B else if y = c then C else if y = d then D else m y) := by
  funext y
  by_cases h1 : y = a <;> by_cases h2 : y = b <;> by_cases h3 : y = c <;> simp_all
theorem n4_d (h : d ≠ a) (h' : d ≠ b) (h'' : d ≠ c) : (fun y => if y = d then D else if y = a then A else if y = b then B else if y = c then C else if y = d then D' else m y) = (fun y => if y = a then A else if y = b then B else if y = c then C else if y = d then D else m y) := by
  funext y
  by_cases h1 : y = a <;> by_cases h2 : y = b <;> by_cases h3 : y = c <;> by_cases h4 : y = d <;> simp_all
theorem n4_in (hA : m a = A) (hB : m b = B) (hC : m c = C) (hD : m d = D) : m = (fun y => if y = a then A else if y = b then B else if y = c then C else if y = d then D else m y) := by
  funext y
  by_cases h1 : y = a
  · subst h1; rw [if_pos rfl, hA]
  by_cases h2 : y = b
  · subst h2; rw [if_neg h1, if_pos rfl, hB]
  by_cases h3 : y = c
  · subst h3; rw [if_neg h1, if_neg h2, if_pos rfl, hC]
  by_cases h4 : y = d
  · subst h4; rw [if_neg h1, if_neg h2, if_neg h3, if_pos rfl, hD]
  rw [if_neg h1, if_neg h2, if_neg h3, if_neg h4]
end
/-- two lists, item by item -/
inductive F2 {α β : Type} (R : α → β → Prop) : List α → List β → Prop where
  | nil : F2 R [] []
  | cons {a b l m} : R a b → F2 R l m → F2 R (a :: l) (b :: m)
section
variable {α β : Type} {R S : α → β → Prop}
theorem F2.length {l : List α} {m : List β} (h : F2 R l m) : l.length = m.length := by
  induction h with
  | nil => rfl
  | cons _ _ ih => simp [ih]
theorem F2.mono (k : ∀ a b, R a b → S a b) {l : List α} {m : List β} (h : F2 R l m) : F2 S l m := by
  induction h with
  | nil => exact .nil
  | cons x _ ih => exact .cons (k _ _ x) ih
theorem F2.append {l l' : List α} {m m' : List β} (h : F2 R l m) (h' : F2 R l' m') : F2 R (l ++ l') (m ++ m') := by
  induction h with
  | nil => exact h'
  | cons x _ ih => exact .cons x ih
theorem F2.get : ∀ {l : List α} {m : List β} {i : Nat} {b : β}, F2 R l m → m[i]? = some b → ∃ a, l[i]? = some a ∧ R a b
  | _, _, _, _, .nil, h => by simp at h
  | _, _, 0, _, .cons x _, h => by simp at h; exact ⟨_, rfl, h ▸ x⟩
  | _, _, i + 1, _, .cons _ r, h => by
    simp at h
    obtain ⟨a, e, x⟩ := F2.get r h
    exact ⟨a, by simpa using e, x⟩
theorem F2.get' : ∀ {l : List α} {m : List β} {i : Nat} {a : α}, F2 R l m → l[i]? = some a → ∃ b, m[i]? = some b ∧ R a b
  | _, _, _, _, .nil, h => by simp at h
  | _, _, 0, _, .cons x _, h => by simp at h; exact ⟨_, rfl, h ▸ x⟩
  | _, _, i + 1, _, .cons _ r, h => by
    simp at h
    obtain ⟨a, e, x⟩ := F2.get' r h
    exact ⟨a, by simpa using e, x⟩
theorem F2.take : ∀ {l : List α} {m : List β} (i : Nat), F2 R l m → F2 R (l.take i) (m.take i)
  | _, _, 0, _ => by simp; exact .nil
  | _, _, _ + 1, .nil => by simp; exact .nil
  | _, _, i + 1, .cons x r => .cons x (F2.take i r)
theorem F2.drop : ∀ {l : List α} {m : List β} (i : Nat), F2 R l m → F2 R (l.drop i) (m.drop i)
  | _, _, 0, h => h
  | _, _, _ + 1, .nil => by simp; exact .nil
  | _, _, i + 1, .cons _ r => F2.drop i r
end

noncomputable def IL (nw : List (Addr × Obj)) (v : Value) (ns : List Int) : Prop := ∃ a us c, v = .ref a ∧ (a, PySem.W.listOf (List.toArray us) c) ∈ nw ∧ IntsAre us ns
noncomputable def WL (nw : List (Addr × Obj)) (v : Value) (bs : List (List Int)) : Prop := ∃ a us c, v = .ref a ∧ (a, PySem.W.listOf (List.toArray us) c) ∈ nw ∧ F2 (IL nw) us bs
noncomputable abbrev WW (nw : List (Addr × Obj)) (vs : List Value) (ws : List (List (List Int))) : Prop := F2 (WL nw) vs ws
noncomputable def ILh (h : Heap) (v : Value) (ns : List Int) : Prop := ∃ a us, v = .ref a ∧ h.IsList a us.toArray ∧ IntsAre us ns
theorem IL.mono {nw nw' : List (Addr × Obj)} (k : ∀ p ∈ nw, p ∈ nw') {v : Value} {ns : List Int} (h : IL nw v ns) : IL nw' v ns := let ⟨a, us, c, e, m, r⟩ := h; ⟨a, us, c, e, k _ m, r⟩
theorem WL.mono {nw nw' : List (Addr × Obj)} (k : ∀ p ∈ nw, p ∈ nw') {v : Value} {bs : List (List Int)} (h : WL nw v bs) : WL nw' v bs := let ⟨a, us, c, e, m, r⟩ := h; ⟨a, us, c, e, k _ m, r.mono fun _ _ => IL.mono k⟩
theorem WW.mono {nw nw' : List (Addr × Obj)} (k : ∀ p ∈ nw, p ∈ nw') {vs : List Value} {ws : List (List (List Int))} (h : WW nw vs ws) : WW nw' vs ws := F2.mono (fun _ _ => WL.mono k) h

/-- the ways that one way grows to, by the places below k -/
noncomputable def atPlaces (H : List Int) (one : Int) (way : List (List Int)) : Nat → List (List (List Int))
  | 0 => []
  | k + 1 => atPlaces H one way k ++ (if (way.getD k []).filter (fun x => H.contains x) = [] then [way.take k ++ [way.getD k [] ++ [one]] ++ way.drop (k + 1)] else [])
noncomputable def growOne (H : List Int) (one : Int) (way : List (List Int)) : List (List (List Int)) := (way ++ [[one]]) :: atPlaces H one way way.length
noncomputable def growAll (H : List Int) (one : Int) (ws : List (List (List Int))) : List (List (List Int)) := ws.flatMap (growOne H one)
noncomputable def waysAt (hss : List (List Int)) : Nat → List (List (List Int))
  | 0 => [[]]
  | k + 1 => growAll (hss.getD k []) (k : Int) (waysAt hss k)
/-- what `_law_shared` gives -/
noncomputable def sharedNs (hss : List (List Int)) : List Int := (List.range (hss.length + 1)).map fun j => (((waysAt hss hss.length).map List.length).count j : Int)

theorem atPlaces_len {H : List Int} {one : Int} {way : List (List Int)} : ∀ k, (atPlaces H one way k).length ≤ k
  | 0 => Nat.le_refl _
  | k + 1 => by
    have := atPlaces_len (H := H) (one := one) (way := way) k
    simp only [atPlaces, List.length_append]
    split <;> simp <;> lia
theorem atPlaces_mem {H : List Int} {one : Int} {way : List (List Int)} : ∀ k, k ≤ way.length → ∀ w ∈ atPlaces H one way k, w.length = way.length
  | 0, _, w, h => by simp [atPlaces] at h
  | k + 1, hk, w, h => by
    simp only [atPlaces] at h
    rcases List.mem_append.mp h with h | h
    · exact atPlaces_mem k (by lia) w h
    · split at h
      · simp at h
        subst h
        simp
        lia
      · simp at h
theorem ways_len (hss : List (List Int)) : ∀ k, (∀ w ∈ waysAt hss k, w.length ≤ k) ∧ (waysAt hss k).length ≤ (k + 1) ^ k
  | 0 => by simp [waysAt]
  | k + 1 => by
    have ⟨h1, h2⟩ := ways_len hss k
    have h3 : ∀ w ∈ waysAt hss k, (growOne (hss.getD k []) (k : Int) w).length ≤ k + 1 := fun w hw => by
      have := atPlaces_len (H := hss.getD k []) (one := (k : Int)) (way := w) w.length
      have := h1 w hw
      simp only [growOne, List.length_cons]
      lia
    refine ⟨fun w hw => ?_, ?_⟩
    · simp only [waysAt, growAll, List.mem_flatMap] at hw
      obtain ⟨w0, hw0, hw⟩ := hw
      have h4 := h1 w0 hw0
      rcases List.mem_cons.mp hw with rfl | hw
      · simp; lia
      · rw [atPlaces_mem _ (Nat.le_refl _) w hw]; lia
    · have h5 : (waysAt hss (k + 1)).length ≤ (k + 1) * (waysAt hss k).length := by
        simp only [waysAt, growAll]
        generalize waysAt hss k = ws at h3
        induction ws with
        | nil => simp
        | cons w r ih =>
          have h6 := h3 w (.head _)
          have h7 := ih (fun w hw => h3 w (.tail _ hw))
          rw [List.flatMap_cons, List.length_append, List.length_cons, Nat.mul_add, Nat.mul_one]
          lia
      have h8 : (k + 1) * (waysAt hss k).length ≤ (k + 1) * (k + 1) ^ k := Nat.mul_le_mul_left _ h2
      have h9 : (k + 1) * (k + 1) ^ k = (k + 1) ^ (k + 1) := by rw [Nat.pow_succ, Nat.mul_comm]
      have h10 : (k + 1) ^ (k + 1) ≤ (k + 1 + 1) ^ (k + 1) := Nat.pow_le_pow_left (by lia) _
      lia
theorem growAll_snoc (H : List Int) (one : Int) (ws : List (List (List Int))) (w : List (List Int)) : growAll H one (ws ++ [w]) = growAll H one ws ++ growOne H one w := by
  simp [growAll]
theorem growAll_take_le (H : List Int) (one : Int) (ws : List (List (List Int))) (t : Nat) : (growAll H one (ws.take t)).length ≤ (growAll H one ws).length := by
  have e : growAll H one ws = growAll H one (ws.take t) ++ growAll H one (ws.drop t) := by
    unfold growAll
    rw [← List.flatMap_append, List.take_append_drop]
  rw [e, List.length_append]
  lia
theorem pow_small {i : Nat} (h : i < 6) : (i + 2) ^ (i + 1) ≤ 117649 := by
  have : i = 0 ∨ i = 1 ∨ i = 2 ∨ i = 3 ∨ i = 4 ∨ i = 5 := by lia
  rcases this with rfl | rfl | rfl | rfl | rfl | rfl <;> decide
theorem grow_small {hss : List (List Int)} {i : Nat} (h : i < 6) (t : Nat) : (growAll (hss.getD i []) (i : Int) ((waysAt hss i).take t)).length ≤ 117649 := by
  have h1 := growAll_take_le (hss.getD i []) (i : Int) (waysAt hss i) t
  have h2 := (ways_len hss (i + 1)).2
  have h3 := pow_small h
  exact Nat.le_trans h1 (Nat.le_trans h2 h3)
theorem grow_next {H : List Int} {one : Int} {ws : List (List (List Int))} {t : Nat} {way : List (List Int)} (h : ws[t]? = some way) : growAll H one (ws.take (t + 1)) = growAll H one (ws.take t) ++ ([way ++ [[one]]] ++ atPlaces H one way way.length) := by
  rw [List.take_add_one, h]
  show growAll H one (ws.take t ++ [way]) = _
  rw [growAll_snoc]
  rfl
theorem atPlaces_mono {H : List Int} {one : Int} {way : List (List Int)} {k n : Nat} (h : k ≤ n) : (atPlaces H one way k).length ≤ (atPlaces H one way n).length := by
  induction n with
  | zero => rw [Nat.le_zero.mp h]; exact Nat.le_refl _
  | succ n ih =>
    rcases Nat.lt_or_ge n k with h1 | h1
    · rw [show k = n + 1 from by lia]; exact Nat.le_refl _
    · have := ih h1
      simp only [atPlaces, List.length_append]
      lia
section
variable {h₀ h : Heap} {L : Addr} {a3 a2 a1 gr cS cO cH : Addr × Obj} {imm own own2 : List (Addr × Obj)}
theorem re_news (N : News h₀ L h (a3 :: a2 :: a1 :: gr :: cS :: cO :: cH :: (imm ++ own ++ own2))) : News h₀ L h (gr :: cS :: cO :: cH :: ((a3 :: a1 :: imm) ++ own ++ own2)) := fun p hp => N p (by
  simp at hp ⊢
  grind)
end
theorem re_turn {h₀ h : Heap} {L : Addr} {gr cS cO cH : Addr × Obj} {nw imm own own2 : List (Addr × Obj)} (N : News h₀ L h (nw ++ own2)) (k4 : gr ∈ nw) (k1 : cS ∈ nw) (k2 : cO ∈ nw) (k3 : cH ∈ nw) (hi : ∀ p ∈ imm, p ∈ nw) (hw : ∀ p ∈ own, p ∈ nw) : News h₀ L h (gr :: cS :: cO :: cH :: (imm ++ own ++ own2)) := fun p hp => N p (by
  simp at hp ⊢
  rcases hp with rfl | rfl | rfl | rfl | hp | hp | hp
  · exact .inl k4
  · exact .inl k1
  · exact .inl k2
  · exact .inl k3
  · exact .inl (hi p hp)
  · exact .inl (hw p hp)
  · exact .inr hp)
theorem in_imm {gr cS cO cH p : Addr × Obj} {imm own own2 : List (Addr × Obj)} (h : p ∈ imm) : p ∈ gr :: cS :: cO :: cH :: (imm ++ own ++ own2) := .tail _ (.tail _ (.tail _ (.tail _ (List.mem_append_left _ (List.mem_append_left _ h)))))
theorem fa_cons {P : Addr × Obj → Prop} {x : Addr × Obj} {l : List (Addr × Obj)} (h1 : P x) (h2 : ∀ p ∈ l, P p) : ∀ p ∈ x :: l, P p := List.forall_mem_cons.mpr ⟨h1, h2⟩
theorem fa_app {P : Addr × Obj → Prop} {k l : List (Addr × Obj)} (h1 : ∀ p ∈ k, P p) (h2 : ∀ p ∈ l, P p) : ∀ p ∈ k ++ l, P p := List.forall_mem_append.mpr ⟨h1, h2⟩
theorem atPlaces_blk {H : List Int} {one : Int} {way : List (List Int)} {n : Nat} (hw : ∀ b ∈ way, b.length ≤ n) : ∀ k, ∀ w ∈ atPlaces H one way k, ∀ b ∈ w, b.length ≤ n + 1
  | 0, w, h => by simp [atPlaces] at h
  | k + 1, w, h => by
    simp only [atPlaces] at h
    rcases List.mem_append.mp h with h | h
    · exact atPlaces_blk hw k w h
    · split at h
      · rw [List.mem_singleton] at h
        subst h
        intro b hb
        rcases List.mem_append.mp hb with hb | hb
        · rcases List.mem_append.mp hb with hb | hb
          · have := hw b (List.mem_of_mem_take hb); lia
          · rw [List.mem_singleton.mp hb, List.length_append, List.length_singleton, List.getD_eq_getElem?_getD]
            cases e : way[k]? with
            | none => simp
            | some c => have := hw c (List.mem_of_getElem? e); simp; lia
        · have := hw b (List.mem_of_mem_drop hb); lia
      · simp at h
theorem ways_blk (hss : List (List Int)) : ∀ k, ∀ w ∈ waysAt hss k, ∀ b ∈ w, b.length ≤ k
  | 0, w, h => by simp [waysAt] at h; subst h; simp
  | k + 1, w, h => by
    simp only [waysAt, growAll, List.mem_flatMap] at h
    obtain ⟨w0, hw0, h⟩ := h
    have ih := ways_blk hss k w0 hw0
    rcases List.mem_cons.mp h with rfl | h
    · intro b hb
      rcases List.mem_append.mp hb with hb | hb
      · have := ih b hb; lia
      · rw [List.mem_singleton.mp hb]; simp
    · exact atPlaces_blk ih _ w h
theorem any_contains (ns : List Int) (k : Int) : ns.any (· == k) = ns.contains k := by
  induction ns with
  | nil => rfl
  | cons a r ih => rw [List.any_cons, ih, List.contains_cons, BEq.comm]
theorem take_filter {p : Int → Bool} {l : List Int} {j : Nat} {x : Int} (h : l[j]? = some x) : (l.take (j + 1)).filter p = (l.take j).filter p ++ (if p x = true then [x] else []) := by
  rw [List.take_add_one, h, List.filter_append]
  congr 1
  show List.filter _ [x] = _
  rw [List.filter_cons, List.filter_nil]
section
variable {h₀ h : Heap} {L : Addr} {c6 b5 c4 c3 c2 c1 b1 e2 d2 gr cS cO cH : Addr × Obj} {imm own own2 : List (Addr × Obj)}
theorem re_news2 (N : News h₀ L h (c6 :: b5 :: c4 :: c3 :: c2 :: c1 :: b1 :: e2 :: d2 :: gr :: cS :: cO :: cH :: (imm ++ own ++ own2))) : News h₀ L h (gr :: cS :: cO :: cH :: ((c6 :: c2 :: imm) ++ own ++ own2)) := fun p hp => N p (by
  simp at hp ⊢
  grind)
end
theorem pow_small2 {i : Nat} (h : i ≤ 6) : (i + 1) ^ i ≤ 117649 := by
  have : i = 0 ∨ i = 1 ∨ i = 2 ∨ i = 3 ∨ i = 4 ∨ i = 5 ∨ i = 6 := by lia
  rcases this with rfl | rfl | rfl | rfl | rfl | rfl | rfl <;> decide
theorem count_cast (ws : List (List (List Int))) (j : Nat) : (ws.map fun w => (w.length : Int)).count (j : Int) = (ws.map List.length).count j := by
  induction ws with
  | nil => rfl
  | cons w r ih =>
    rw [List.map_cons, List.map_cons, List.count_cons, List.count_cons, ih]
    congr 1
    by_cases h : w.length = j
    · simp [h]
    · have : ¬ (w.length : Int) = (j : Int) := by lia
      simp [h, this]
end Mine
end
section
theorem Mine.startSpecShared : True := by
  w_top off
  trivial
open PySem PySem.Spec PySem.Calls PyProof.Rows PySem.W
set_option maxRecDepth 100000
set_option maxHeartbeats 4000000
namespace Mine

theorem news_lt {h₀ h : Heap} {L : Addr} {news : List (Addr × Obj)} (N : News h₀ L h news) : ∀ p ∈ news, p.1 < h.objs.size := fun p hp => Heap.lt_size (N p hp).1
noncomputable def isLst (o : Obj) : Prop := ∃ its c, o = PySem.W.listOf its c
theorem isLst.notIt {o : Obj} (h : isLst o) : Mine.notIt o = true := by obtain ⟨its, c, rfl⟩ := h; rfl

theorem shared_spec : ∀ {w : World} {dp un : Nat} {fr : Option (List Env)} {gd : Option (List Code)} {E : Value → Shared → Prop} {s : Shared} {p : Program} {loose : List Str} {mean : ExcName → Option Value} {mg mb : Str → Option Value} {Q : Value → Shared → Prop} {hd : Addr} {vh : List Value} {hss : List (List Int)},
    (Mine.hd.heap_39 w.params).In s.heap → Top p loose mean mg mb s.heap → s.heap.IsList hd vh.toArray → F2 (ILh s.heap) vh hss → hss.length ≤ 6 → (∀ hs ∈ hss, hs.length ≤ 6) → dp + 4 < recursionLimit → un + 200 < cLine →
    (∀ h' tk x vs c, s.heap.StaysIn h' → s.heap.get? x = none → h'.get? x = some (PySem.W.listOf (List.toArray vs) c) → IntsAre vs (sharedNs hss) → Q (.ref x) { s with heap := h', toks := tk }) →
    wpAny (model PySem.Challenge.rw_xe0036_01.row.prog w) (AA dp un fr gd) (call (.ref 114) [.ref hd]) Q E s := by
  k_fill
  intro w dp un fr gd E s p loose mean mg mb Q hd vh hss X T hh hvh hl6 hl7 hdp hun hQ
  have hk0 : ∀ b o, s.heap.get? b = some o → (hideAll s.heap (([] : List (Addr × Obj)).map (·.1))).get? b = some o := fun b o e => hideAll_get _ e (fun q => nomatch q)
  refine call_fnC (binds := [(Str.ofString "holders", .ref hd)]) [] (fun p hp => nomatch hp) T.nolimit (X 114 _ (by rfl)) (by rfl) (codeRec_of X (by kernel_rfl)) (by show dp < _; lia) (by rfl) (by rfl) (by decide) fun h₁ tk cells E' F N Y => ?_
  have X0 := X.keeps hk0
  have T0 := T.keeps hk0
  have hh0 : Heap.IsList _ hd vh.toArray := let ⟨o, e, x⟩ := hh; ⟨o, hk0 _ _ e, x⟩
  have hvh0 : F2 (ILh _) vh hss := hvh.mono fun v ns ⟨a, us, e, ⟨o, e1, x⟩, r⟩ => ⟨a, us, e, ⟨o, hk0 _ _ e1, x⟩, r⟩
  k_cells Y
  rename_i oc1 oc2 oc3 dc1 dc2 dc3
  generalize hg0 : hideAll s.heap _ = h₀ at N F X0 T0 hh0 hvh0 hk0
  dsimp only [List.map_cons, List.map_nil, List.cons_append, List.nil_append] at N F
  have hvl := hvh.length
  iterate 12 walk1
  refine wpAny_For ?_
  iterate 10 walk1
  rename Fr _ _ _ _ => F2
  refine len_list (Fr.lst F2 hh0) (by rw [List.size_toArray]; lia) ?_
  iterate 2 walk1
  rename IsRange _ _ _ _ _ _ _ _ => R
  rename Fr _ _ _ _ => F3
  rename News _ _ _ _ => N3
  obtain ⟨m3, hm3⟩ : ∃ m3, m3 = mOf F3 := ⟨_, rfl⟩
  have ⟨hrs, hrm⟩ := up_size (a := 0) (n := vh.length) (b := vh.length) (by lia) (by lia) (by lia) (by lia) (by lia)
  have hC3 := Heap.lt_size (N3 _ mm2).1
  have hC4 := Heap.lt_size (N3 _ mm3).1
  dsimp only at hC3 hC4
  refine iterRange_J rfl R hrm hrs F3 N3 (fun i m nw => ∃ pV wV gV wad vs c imm oS oO oH, m = (fun y => if y = Str.ofString "place" then pV else if y = Str.ofString "way" then wV else if y = Str.ofString "grown" then gV else if y = Str.ofString "ways" then some (.ref wad) else m3 y)
    ∧ (s.heap.objs.size + 1 + 1 + 1, oS) ∈ nw ∧ (s.heap.objs.size + 1 + 1, oO) ∈ nw ∧ (s.heap.objs.size + 1, oH) ∈ nw ∧ (∃ x, oS.data = .cell x) ∧ (∃ x, oO.data = .cell x) ∧ oH.data = .cell (some (.ref hd))
    ∧ (∀ p ∈ imm, p ∈ nw ∧ isLst p.2) ∧ (wad, PySem.W.listOf (List.toArray vs) c) ∈ imm ∧ WW imm vs (waysAt hss i)) ?mono ?start ?turn ?done
  case mono =>
    rintro i m nw nw' ⟨pV, wV, gV, wad, vs, c, imm, oS, oO, oH, e, k1, k2, k3, ⟨x1, d1⟩, ⟨x2, d2⟩, d3, hi, r⟩ hk
    exact ⟨pV, wV, gV, wad, vs, c, imm, oS, oO, oH, e, hk _ k1 (.inl (notIt_cell d1)), hk _ k2 (.inl (notIt_cell d2)), hk _ k3 (.inl (notIt_cell d3)), ⟨x1, d1⟩, ⟨x2, d2⟩, d3, fun p hp => ⟨hk _ (hi p hp).1 (.inl (hi p hp).2.notIt), (hi p hp).2⟩, r⟩
  case start =>
    refine ⟨none, none, none, _, _, _, [(adr1 N3, _), (adr2 N3, _)], _, _, _, by subst hm3; exact n4_in (m := mOf F3) rfl rfl rfl rfl, mm2, mm3, mm4, ⟨_, dc1⟩, ⟨_, dc2⟩, dc3, fa_cons ⟨mm0, ⟨_, _, rfl⟩⟩ (fa_cons ⟨mm1, ⟨_, _, rfl⟩⟩ fun p hp => by cases hp), mm0, ?_⟩
    exact .cons ⟨adr2 N3, [], 0, rfl, mm1, .nil⟩ .nil
  case done =>
    rintro m₁ news₁ h tk ⟨pV, wV, gV, wad, vs, c, imm, oS, oO, oH, rfl, k1, k2, k3, ⟨x1, d1⟩, ⟨x2, d2⟩, d3, him, hwad, hww⟩ F N
    rw [hm3] at F
    dsimp only [mOf] at F
    have N' : News h₀ s.heap.objs.size h ((s.heap.objs.size + 1 + 1 + 1, oS) :: (s.heap.objs.size + 1 + 1, oO) :: (s.heap.objs.size + 1, oH) :: imm) := fa_cons (N _ k1) (fa_cons (N _ k2) (fa_cons (N _ k3) fun p hp => N p (him p hp).1))
    clear N
    dsimp only
    iterate 2 walk1
    rename Fr _ _ _ _ => F4
    rename News _ _ _ _ => N4
    refine LCg.ListComp_U (F₀ := F4) (by with_unfolding_all rfl) (by decide) (by rfl) (by decide) (by rfl) ?_
    walk1
    have hwl := hww.length
    have hwb := (ways_len hss vh.length).2
    have hpw : (vh.length + 1) ^ vh.length ≤ 117649 := pow_small2 (by lia)
    refine LCg.CompSrc.ledger (by rfl) F4 N4 (.tail _ (.tail _ (.tail _ hwad))) (by rw [List.size_toArray, sizeLine_eq]; lia) ?_
    intro g2
    refine rest_J (fun j ys nw => nw = (s.heap.objs.size + 1 + 1 + 1, oS) :: (s.heap.objs.size + 1 + 1, oO) :: (s.heap.objs.size + 1, oH) :: imm ∧ IntsAre ys (((waysAt hss vh.length).take j).map fun w => (w.length : Int))) ⟨rfl, .nil⟩ ?cturn ?cfin
    case cturn =>
      rintro j v I oI C oC D2 m₂ ys nw h9 tk9 E₉ hj hv ⟨rfl, hys⟩ hC hx F₉ N₉ off ne
      refine comp_gen fun Qc1 hQc1 => ?_
      obtain ⟨way, hway, wa, us, uc, rfl, hwa, hus⟩ := hww.get' (show vs[j]? = some v by simpa using hv)
      walk1
      refine LCgL.ld_built (v := .builtin "len") F₉ X0 T0 (by kernel_rfl) (by boot_by_name) (by decide) ?_
      iterate 4 walk1
      have hw6 := (ways_len hss vh.length).1 way (List.mem_of_getElem? hway)
      have hul := hus.length
      refine len_list (items := us.toArray) ⟨_, (N₉ _ (.tail _ (.tail _ (.tail _ (.tail _ (.tail _ (.tail _ hwa))))))).1, rfl, _, rfl⟩ (by rw [List.size_toArray]; lia) ?_
      refine hQc1 _ _ ?_
      refine LCg.CompEnd.intro F₉ N₉ _ (fun p hp => hp) off (.inr ⟨_, .tail _ (.tail _ (.tail _ hwad)), rfl, _, rfl⟩) ⟨rfl, ?_⟩
      rw [List.take_add_one, hway, List.map_append]
      refine ints_app hys ?_
      show IntsAre [Value.int (us.toArray.size : Int) _] [(way.length : Int)]
      rw [List.size_toArray, hul]
      exact .cons _ _ .nil
    case cfin =>
      rintro ys nw ⟨rfl, hys⟩
      unfold LCg.FinE
      intro D2 h7 tk7 F7 N7 off7
      simp only [LCg.Off1] at off7
      rw [List.size_toArray, hwl, List.take_length] at hys
      have hoffS : OwnOff imm [s.heap.objs.size + 1 + 1 + 1] := fun p hp b hb => by
        rw [List.mem_singleton.mp hb]
        obtain ⟨its, c', e⟩ := (him p hp).2
        exact news_ne N7 (.tail _ (.tail _ (.tail _ (.tail _ hp)))) mm1 (by rw [e, d1]; simp)
      have hysQ : True → IntsAre ys _ := fun _ => hys
      iterate 3 walk1
      rename_i hS oS' F8 N8 d8
      refine LCg.ListComp_U (F₀ := F8) (by with_unfolding_all rfl) (by decide) (by rfl) (by decide) (by rfl) ?_
      iterate 11 walk1
      rename Fr _ _ _ _ => F9
      refine len_list (Fr.lst F9 hh0) (by rw [List.size_toArray]; lia) ?_
      iterate 4 walk1
      rename IsRange _ _ _ _ _ _ _ _ => R4
      rename Fr _ _ _ _ => F10
      rename News _ _ _ _ => N10
      have ⟨hrs4, hrm4⟩ := up_size (a := 0) (n := vh.length + 1) (b := (vh.length : Int) + 1) (by lia) (by lia) (by lia) (by lia) (by lia)
      refine LCg.CompSrc.range (by rfl) F10 N10 R4 hrm4 hrs4 (by rw [sizeLine_eq]; lia) ?_
      intro g3
      refine rest_J (fun j ys2 nw => nw = (D2, LCg.lst ys) :: (s.heap.objs.size + 1 + 1 + 1, oS') :: (s.heap.objs.size + 1 + 1, oO) :: (s.heap.objs.size + 1, oH) :: imm ∧ IntsAre ys2 ((List.range j).map fun j => (((waysAt hss vh.length).map List.length).count j : Int))) ⟨rfl, .nil⟩ ?dturn ?dfin
      case dturn =>
        rintro j v I oI C oC D3 m₂ ys2 nw h9 tk9 E₉ hj ⟨t9, rfl⟩ ⟨rfl, hys2⟩ hC hx F₉ N₉ off ne
        refine comp_gen fun Qc1 hQc1 => ?_
        have off0 := off
        have hysR : True → IntsAre ys2 _ := fun _ => hys2
        simp only [LCg.Off3] at off
        iterate 8 walk1
        have h0j : (0 : Int) + (j : Int) = (j : Int) := by lia
        rw [h0j]
        refine count_list_ints (vs := ys) ⟨_, (N₉ _ mm3).1, rfl, _, rfl⟩ (hysQ trivial) ?_
        refine hQc1 _ _ ?_
        refine LCg.CompEnd.intro F₉ N₉ _ (fun p hp => hp) off0 trivial ⟨rfl, ?_⟩
        rw [List.range_succ, List.map_append]
        refine ints_app (hysR trivial) ?_
        rw [count_cast]
        exact .cons _ _ .nil
      case dfin =>
        rintro ys2 nw ⟨rfl, hys2⟩
        unfold LCg.FinE
        intro D3 h11 tk11 F11 N11 off11
        have hD3 := N11 _ mm0
        refine hQ _ _ _ ys2 _ (fun b o e => F11.keep b o (hk0 b o e)) ?_ hD3.1 ?_
        · cases e : s.heap.get? D3 with
          | none => rfl
          | some o => have := hD3.2.2; rw [hk0 _ _ e] at this; cases this
        · unfold sharedNs
          rw [← hvl]
          exact hys2
  case turn =>
    rintro i tv m₁ news₁ h tk own E₁ hi ⟨pV, wV, gV, wad, vs, c, imm, oS, oO, oH, rfl, k1, k2, k3, ⟨x1, x1h⟩, ⟨x2, d2⟩, d3, him, hwad, hww⟩ ho F N
    refine turn_gen fun Qt1 hQt1 => ?_
    rw [hm3] at F
    dsimp only [mOf] at F
    obtain ⟨rest, hrest⟩ : ∃ rest, rest = imm ++ own := ⟨_, rfl⟩
    have N' : News h₀ s.heap.objs.size h ((s.heap.objs.size + 1 + 1 + 1, oS) :: (s.heap.objs.size + 1 + 1, oO) :: (s.heap.objs.size + 1, oH) :: rest) := fun p hp => N p (by
      rw [hrest] at hp
      simp at hp ⊢
      rcases hp with rfl | rfl | rfl | hp | hp
      · exact .inl k1
      · exact .inl k2
      · exact .inl k3
      · exact .inl (him p hp).1
      · exact .inr hp)
    clear N
    have hoff : OwnOff rest [s.heap.objs.size + 1 + 1] := fun p hp b hb => by
      rw [List.mem_singleton.mp hb]
      rw [hrest] at hp
      rcases List.mem_append.mp hp with hp | hp
      · obtain ⟨its, c', e⟩ := (him p hp).2
        exact news_ne N' (.tail _ (.tail _ (.tail _ (by rw [hrest]; exact List.mem_append_left _ hp)))) mm1 (by rw [e, d2]; simp)
      · rw [ho p hp]
        exact Nat.ne_of_gt hC4
    have e1 : (0 : Int) + (i : Int) * 1 = (i : Int) := by lia
    rw [e1]
    iterate 5 walk1
    rename_i hA oO' F4 N4 d4

    have hlt4 := news_lt N4
    refine newList_N (vs := []) (by simp) F4 N4 (fun h5 F5 N5 => ?_)
    dsimp only at F5 N5 ⊢
    generalize hA.objs.size = gr at *
    clear F4 N4
    iterate 3 walk1
    refine wpAny_For ?_
    iterate 1 walk1
    rename Fr _ _ _ _ => F6
    rename News _ _ _ _ => N6
    have hP6 : (fun y => if y = Str.ofString "grown" then some (Value.ref gr) else if y = Str.ofString "place" then pV else if y = Str.ofString "way" then wV else if y = Str.ofString "grown" then gV else if y = Str.ofString "ways" then some (.ref wad) else m3 y) = _ := n4_c (by decide) (by decide)
    have hlt6 := news_lt N6
    have hwl : Heap.IsList _ wad vs.toArray := ⟨_, (N6 _ (.tail _ (.tail _ (.tail _ (.tail _ (by rw [hrest]; exact List.mem_append_left _ hwad)))))).1, rfl, _, rfl⟩
    have hrlt : ∀ p ∈ rest, p.1 ≠ gr := fun p hp => Nat.ne_of_lt (hlt4 p (.tail _ (.tail _ (.tail _ hp))))
    have hwL : wad ≠ s.heap.objs.size := (N6 _ (.tail _ (.tail _ (.tail _ (.tail _ (by rw [hrest]; exact List.mem_append_left _ hwad)))))).2.1
    refine iterList_J (vs := vs) rfl hwl hwL F6 N6 (fun t m nw => ∃ pV wV gvs gc imm2, m = (fun y => if y = Str.ofString "place" then pV else if y = Str.ofString "way" then wV else if y = Str.ofString "grown" then some (.ref gr) else if y = Str.ofString "ways" then some (.ref wad) else m3 y)
      ∧ (s.heap.objs.size + 1 + 1 + 1, oS) ∈ nw ∧ (s.heap.objs.size + 1 + 1, oO') ∈ nw ∧ (s.heap.objs.size + 1, oH) ∈ nw ∧ (gr, PySem.W.listOf (List.toArray gvs) gc) ∈ nw
      ∧ (∀ p ∈ imm2, p ∈ nw ∧ isLst p.2 ∧ p.1 ≠ gr) ∧ (∀ p ∈ imm, p ∈ imm2) ∧ (∀ p ∈ own, p ∈ nw) ∧ WW imm2 gvs (growAll (hss.getD i []) (i : Int) ((waysAt hss i).take t))) ?mono2 ?start2 ?turn2 ?done2
    case mono2 =>
      rintro t m nw nw' ⟨pV, wV, gvs, gc, imm2, e, k1, k2, k3, k4, hi2, hi3, hw, r⟩ hk
      exact ⟨pV, wV, gvs, gc, imm2, e, hk _ k1 (.inl (notIt_cell x1h)), hk _ k2 (.inl (notIt_cell d4)), hk _ k3 (.inl (notIt_cell d3)), hk _ k4 (.inl rfl), fun p hp => ⟨hk _ (hi2 p hp).1 (.inl (hi2 p hp).2.1.notIt), (hi2 p hp).2⟩, hi3,
        fun p hp => hk _ (hw p hp) (.inr (Nat.ne_of_lt (hlt6 p (.tail _ (.tail _ (.tail _ (.tail _ (by rw [hrest]; exact List.mem_append_right _ hp)))))))), r⟩
    case start2 =>
      refine ⟨pV, wV, [], 0, imm, ?_, mm1, mm2, mm3, mm0, fun p hp => ⟨.tail _ (.tail _ (.tail _ (.tail _ (by rw [hrest]; exact List.mem_append_left _ hp)))), (him p hp).2, hrlt p (by rw [hrest]; exact List.mem_append_left _ hp)⟩, fun p hp => hp, fun p hp => .tail _ (.tail _ (.tail _ (.tail _ (by rw [hrest]; exact List.mem_append_right _ hp)))), .nil⟩
      rw [hm3] at hP6
      rw [hm3]
      exact hP6
    case done2 =>
      rintro m₁ news₁ h tk ⟨pV, wV, gvs, gc, imm2, rfl, k1, k2, k3, k4, hi2, hi3, hw, hgw⟩ F N
      rw [hm3] at F
      dsimp only [mOf] at F
      rw [show vs.length = (waysAt hss i).length from hww.length, List.take_length] at hgw
      dsimp only
      iterate 5 walk1
      rename Fr _ _ _ _ => F7
      rename News _ _ _ _ => N7
      refine hQt1 _ ?_
      refine LoopEnd.intro F7 N7 hw ?_
      refine ⟨pV, wV, some (.ref gr), gr, gvs, gc, (gr, PySem.W.listOf (List.toArray gvs) gc) :: imm2, oS, oO', oH, ?_, k1, k2, k3, ⟨x1, x1h⟩, ⟨_, d4⟩, d3, fa_cons ⟨k4, ⟨_, _, rfl⟩⟩ fun p hp => ⟨(hi2 p hp).1, (hi2 p hp).2.1⟩, mm0, WW.mono (fun p hp => .tail _ hp) hgw⟩
      rw [hm3]
      exact n4_d (by decide) (by decide) (by decide)
    case turn2 =>
      rintro t v m₁ news₁ h tk own2 E₂ hvt ⟨pV, wV, gvs, gc, imm2, rfl, k1, k2, k3, k4, hi2, hi3, hw, hgw⟩ ho2 F N
      refine turn_gen fun Qt2 hQt2 => ?_
      rw [hm3] at F
      dsimp only [mOf] at F
      obtain ⟨rest2, hrest2⟩ : ∃ r, r = imm2 ++ own ++ own2 := ⟨_, rfl⟩
      have N' : News h₀ s.heap.objs.size h ((gr, PySem.W.listOf (List.toArray gvs) gc) :: (s.heap.objs.size + 1 + 1 + 1, oS) :: (s.heap.objs.size + 1 + 1, oO') :: (s.heap.objs.size + 1, oH) :: rest2) := fun p hp => N p (by
        rw [hrest2] at hp
        simp at hp ⊢
        rcases hp with rfl | rfl | rfl | rfl | hp | hp | hp
        · exact .inl k4
        · exact .inl k1
        · exact .inl k2
        · exact .inl k3
        · exact .inl (hi2 p hp).1
        · exact .inl (hw p hp)
        · exact .inr hp)
      clear N
      have hgr6 := hlt6 _ mm0
      have hoff2 : ∀ p ∈ rest2, p.1 ≠ gr := fun p hp => by
        rw [hrest2] at hp
        rcases List.mem_append.mp hp with hp | hp
        · rcases List.mem_append.mp hp with hp | hp
          · exact (hi2 p hp).2.2
          · exact hrlt p (by rw [hrest]; exact List.mem_append_right _ hp)
        · rcases ho2 p hp with e | e
          · rw [e]; exact Nat.ne_of_gt hgr6
          · rw [e]; exact hrlt _ (by rw [hrest]; exact List.mem_append_left _ hwad)
      obtain ⟨way, hway, wa, us, uc, rfl, hwa, hus⟩ := hww.get' hvt
      have hwaN : Heap.IsList _ wa us.toArray := ⟨_, (N' _ (.tail _ (.tail _ (.tail _ (.tail _ (by rw [hrest2]; exact List.mem_append_left _ (List.mem_append_left _ (hi3 _ hwa)))))))).1, rfl, _, rfl⟩
      have hi6 : i < 6 := by lia
      have hul : us.length ≤ 6 := by
        rw [hus.length]
        have := (ways_len hss i).1 way (List.mem_of_getElem? hway)
        lia
      iterate 17 walk1
      rename_i hX F7 N7
      have hlt7 := news_lt N7
      refine newList_N (by simp) F7 N7 (fun h8 F8 N8 => ?_)
      dsimp only at F8 N8 ⊢
      generalize hX.objs.size = a1 at *
      clear F7 N7
      have hlt8 := news_lt N8
      walk1
      refine newList_N (by simp) F8 N8 (fun h9 F9 N9 => ?_)
      dsimp only at F9 N9 ⊢
      generalize h8.objs.size = a2 at *
      clear F8 N8
      have hlt9 := news_lt N9
      refine add_lists (vs := us) (ws := [.ref a1]) F9 N9 ⟨_, (N9 _ (.tail _ (.tail _ (.tail _ (.tail _ (.tail _ (.tail _ (by rw [hrest2]; exact List.mem_append_left _ (List.mem_append_left _ (hi3 _ hwa)))))))))).1, rfl, _, rfl⟩ ⟨_, (N9 _ mm0).1, rfl, _, rfl⟩ (fun hY F10 N10 => ?_) (by rw [sizeLine_eq, List.length_singleton]; lia)
      dsimp only at F10 N10 ⊢
      generalize h9.objs.size = a3 at *
      clear F9 N9
      walk1
      have hgvl := hgw.length
      have hgs := grow_small (hss := hss) hi6 t
      rw [hrest2] at N10
      have N11 := re_news N10
      clear N10
      have h3gr := hlt9 _ mm2
      have h1gr := hlt7 _ mm0
      obtain ⟨imm3, himm3⟩ : ∃ r, r = (a3, PySem.W.listOf (us ++ [Value.ref a1]).toArray 0) :: (a1, PySem.W.listOf [Value.int (i : Int) tv].toArray 0) :: imm2 := ⟨_, rfl⟩
      have hi3' : ∀ p ∈ imm3, isLst p.2 ∧ p.1 ≠ gr := by
        rw [himm3]
        exact fa_cons ⟨⟨_, _, rfl⟩, Nat.ne_of_gt h3gr⟩ (fa_cons ⟨⟨_, _, rfl⟩, Nat.ne_of_gt h1gr⟩ fun p hp => (hi2 p hp).2)
      have ho3 : ∀ p ∈ own, p.1 ≠ gr := fun p hp => hoff2 p (by rw [hrest2]; exact List.mem_append_left _ (List.mem_append_right _ hp))
      have ho4 : ∀ p ∈ own2, p.1 ≠ gr := fun p hp => hoff2 p (by rw [hrest2]; exact List.mem_append_right _ hp)
      have N13 : News h₀ s.heap.objs.size hY ((gr, PySem.W.listOf (List.toArray gvs) gc) :: (s.heap.objs.size + 1 + 1 + 1, oS) :: (s.heap.objs.size + 1 + 1, oO') :: (s.heap.objs.size + 1, oH) :: (imm3 ++ own ++ own2)) := by
        rw [himm3]
        exact N11
      clear N11
      have hcgr : ∀ p ∈ (s.heap.objs.size + 1 + 1 + 1, oS) :: (s.heap.objs.size + 1 + 1, oO') :: (s.heap.objs.size + 1, oH) :: (imm3 ++ own ++ own2), p.1 ≠ gr :=
        fa_cons (Nat.ne_of_lt (hlt4 _ mm0)) (fa_cons (Nat.ne_of_lt (hlt4 _ mm1)) (fa_cons (Nat.ne_of_lt (hlt4 _ mm2)) (fa_app (fa_app (fun p hp => (hi3' p hp).2) ho3) ho4)))
      refine append_K F10 N13 (.head hcgr) (fun h11 F11 N12 => ?_) (by rw [List.size_toArray, sizeLine_eq]; lia)
      rw [List.push_toArray] at N12
      clear F10 N13
      have hWL3 : WL imm3 (.ref a3) (way ++ [[(i : Int)]]) := ⟨a3, us ++ [Value.ref a1], 0, rfl, by rw [himm3]; exact mm0, (hus.mono fun _ _ x => x.mono fun p hp => by rw [himm3]; exact .tail _ (.tail _ (hi3 p hp))).append (.cons ⟨a1, [Value.int (i : Int) tv], 0, rfl, by rw [himm3]; exact mm1, .cons _ _ .nil⟩ .nil)⟩
      have hWW3 : WW imm3 (gvs ++ [.ref a3]) (growAll (hss.getD i []) (i : Int) ((waysAt hss i).take t) ++ [way ++ [[(i : Int)]]]) := (WW.mono (fun p hp => by rw [himm3]; exact .tail _ (.tail _ hp)) hgw).append (.cons hWL3 .nil)
      iterate 1 walk1
      refine wpAny_For ?_
      iterate 10 walk1
      rename Fr _ _ _ _ => F13
      rename News _ _ _ _ => N14
      have hwa3 : (wa, PySem.W.listOf (List.toArray us) uc) ∈ imm3 := by rw [himm3]; exact .tail _ (.tail _ (hi3 _ hwa))
      refine len_list (items := us.toArray) ⟨_, (N14 _ (.tail _ (.tail _ (.tail _ (.tail _ (List.mem_append_left _ (List.mem_append_left _ hwa3))))))).1, rfl, _, rfl⟩ (by rw [List.size_toArray]; lia) ?_
      iterate 2 walk1
      rename IsRange _ _ _ _ _ _ _ _ => R3
      rename Fr _ _ _ _ => F15
      rename News _ _ _ _ => N15
      have huw : us.toArray.size = way.length := by rw [List.size_toArray, hus.length]
      rw [huw] at R3
      have huw2 : way.length ≤ 6 := by rw [← huw, List.size_toArray]; lia
      have ⟨hrs3, hrm3⟩ := up_size (a := 0) (n := way.length) (b := way.length) (by lia) (by lia) (by lia) (by lia) (by lia)
      have hlt15 := news_lt N15
      have hP15 : (fun y => if y = Str.ofString "way" then some (Value.ref wa) else if y = Str.ofString "place" then pV else if y = Str.ofString "way" then wV else if y = Str.ofString "grown" then some (Value.ref gr) else if y = Str.ofString "ways" then some (.ref wad) else m3 y) = _ := n4_b (by decide)
      refine iterRange_J rfl R3 hrm3 hrs3 F15 N15 (fun k m nw => ∃ pV gvs gc imm4, m = (fun y => if y = Str.ofString "place" then pV else if y = Str.ofString "way" then some (.ref wa) else if y = Str.ofString "grown" then some (.ref gr) else if y = Str.ofString "ways" then some (.ref wad) else m3 y)
        ∧ (s.heap.objs.size + 1 + 1 + 1, oS) ∈ nw ∧ (s.heap.objs.size + 1 + 1, oO') ∈ nw ∧ (s.heap.objs.size + 1, oH) ∈ nw ∧ (gr, PySem.W.listOf (List.toArray gvs) gc) ∈ nw
        ∧ (∀ p ∈ imm4, p ∈ nw ∧ isLst p.2 ∧ p.1 ≠ gr) ∧ (∀ p ∈ imm3, p ∈ imm4) ∧ (∀ p ∈ own ++ own2, p ∈ nw) ∧ WW imm4 gvs (growAll (hss.getD i []) (i : Int) ((waysAt hss i).take t) ++ [way ++ [[(i : Int)]]] ++ atPlaces (hss.getD i []) (i : Int) way k)) ?mono3 ?start3 ?turn3 ?done3
      case mono3 =>
        rintro k m nw nw' ⟨pV, gvs, gc, imm4, e, k1, k2, k3, k4, hi4, hi5, hw, r⟩ hk
        exact ⟨pV, gvs, gc, imm4, e, hk _ k1 (.inl (notIt_cell x1h)), hk _ k2 (.inl (notIt_cell d4)), hk _ k3 (.inl (notIt_cell d3)), hk _ k4 (.inl rfl), fun p hp => ⟨hk _ (hi4 p hp).1 (.inl (hi4 p hp).2.1.notIt), (hi4 p hp).2⟩, hi5,
          fun p hp => hk _ (hw p hp) (.inr (Nat.ne_of_lt (hlt15 p (.tail _ (.tail _ (.tail _ (.tail _ (by rw [List.append_assoc]; exact List.mem_append_right _ hp)))))))), r⟩
      case start3 =>
        refine ⟨pV, _, _, imm3, ?_, mm1, mm2, mm3, mm0, fun p hp => ⟨.tail _ (.tail _ (.tail _ (.tail _ (List.mem_append_left _ (List.mem_append_left _ hp))))), hi3' p hp⟩, fun p hp => hp, fun p hp => .tail _ (.tail _ (.tail _ (.tail _ (by rw [List.append_assoc]; exact List.mem_append_right _ hp)))), ?_⟩
        · rw [hm3] at hP15
          rw [hm3]
          exact hP15
        · rw [show atPlaces (hss.getD i []) (i : Int) way 0 = [] from rfl, List.append_nil]
          exact hWW3
      case done3 =>
        rintro m₁ news₁ h tk ⟨pV, gvs, gc, imm4, rfl, k1, k2, k3, k4, hi4, hi5, hw4, hgw4⟩ F N
        dsimp only
        refine wpAny_execs_nil ?_
        refine hQt2 _ ?_
        refine LoopEnd.intro F N (fun p hp => hw4 p (List.mem_append_right _ hp)) ?_
        refine ⟨pV, some (.ref wa), gvs, gc, imm4, rfl, k1, k2, k3, k4, hi4, fun p hp => hi5 _ (by rw [himm3]; exact .tail _ (.tail _ (hi3 _ hp))), fun p hp => hw4 p (List.mem_append_left _ hp), ?_⟩
        rw [grow_next hway, ← List.append_assoc]
        exact hgw4
      case turn3 =>
        rintro k tv3 m₁ news₁ h tk own3 E₃ hk ⟨pV, gvs, gc, imm4, rfl, k1, k2, k3, k4, hi4, hi5, hw4, hgw4⟩ ho5 F N
        refine turn_gen fun Qt3 hQt3 => ?_
        rw [hm3] at F
        dsimp only [mOf] at F
        have hgr15 := hlt15 _ mm0
        have N' : News h₀ s.heap.objs.size h ((gr, PySem.W.listOf (List.toArray gvs) gc) :: (s.heap.objs.size + 1 + 1 + 1, oS) :: (s.heap.objs.size + 1 + 1, oO') :: (s.heap.objs.size + 1, oH) :: (imm4 ++ (own ++ own2) ++ own3)) :=
          re_turn N k4 k1 k2 k3 (fun p hp => (hi4 p hp).1) hw4
        clear N
        have ho6 : ∀ p ∈ own3, p.1 ≠ gr := fun p hp => by rw [ho5 p hp]; exact Nat.ne_of_gt hgr15
        have hoff4 : ∀ p ∈ imm4 ++ (own ++ own2) ++ own3, p.1 ≠ gr := fa_app (fa_app (fun p hp => (hi4 p hp).2.2) (fa_app ho3 ho4)) ho6
        have ek : (0 : Int) + (k : Int) * 1 = (k : Int) := by lia
        rw [ek]
        iterate 5 walk1
        rename Fr _ _ _ _ => F16
        rename News _ _ _ _ => N16
        refine LCt.ListComp_T (F₀ := F16) (by with_unfolding_all rfl) (by decide) (by rfl) (by decide) (by rfl) ?_
        obtain ⟨blk, hblk⟩ : ∃ b, way[k]? = some b := ⟨_, List.getElem?_eq_getElem (show k < way.length from hk)⟩
        obtain ⟨bv, hbv, ba, bus, bc, rfl, hba, hbi⟩ := hus.get hblk
        have hba4 := hi5 _ (by rw [himm3]; exact .tail _ (.tail _ (hi3 _ hba)) : (ba, PySem.W.listOf (List.toArray bus) bc) ∈ imm3)
        have hwa4 := hi5 _ hwa3
        iterate 3 walk1
        have hkw : k < way.length := hk
        refine item_listL (l := us) ⟨_, (N16 _ (in_imm hwa4)).1, rfl, _, rfl⟩ (by lia) (by lia) (by rw [Int.toNat_natCast]; exact hbv) ?_
        have hbl := hbi.length
        have hbl6 : blk.length ≤ 6 := by
          have := ways_blk hss i way (List.mem_of_getElem? hway) blk (List.mem_of_getElem? hblk)
          lia
        refine LCt.CompSrcT.ledger (by rfl) F16 N16 (in_imm hba4) (by rw [List.size_toArray, sizeLine_eq]; lia) ?_
        intro g2
        obtain ⟨H, hH⟩ : ∃ H, hss[i]? = some H := ⟨_, List.getElem?_eq_getElem (show i < hss.length by lia)⟩
        have hHD : hss.getD i [] = H := by rw [List.getD_eq_getElem?_getD, hH]; rfl
        obtain ⟨hv1, hvi, ha, hu, rfl, hhl, hhi⟩ := hvh0.get hH
        refine restT_J (fun j ys nw => nw = (gr, PySem.W.listOf (List.toArray gvs) gc) :: (s.heap.objs.size + 1 + 1 + 1, oS) :: (s.heap.objs.size + 1 + 1, oO') :: (s.heap.objs.size + 1, oH) :: (imm4 ++ (own ++ own2) ++ own3) ∧ IntsAre ys ((blk.take j).filter fun x => H.contains x)) ⟨rfl, .nil⟩ ?cturn ?cfin
        case cturn =>
          rintro j v I oI C oC D2 m₂ ys nw h9 tk9 E₉ hj hv ⟨rfl, hys⟩ hC hx F₉ N₉ off ne
          refine compT_gen fun Qc1 Qc1F hQc1 hQc1F => ?_
          have off0 := off
          simp only [LCg.Off3] at off
          obtain ⟨hx1, ht1, rfl, hx2⟩ := ints_at hbi (by simpa using hv)
          iterate 5 walk1
          refine item_listL (l := vh) (Fr.lst F₉ hh0) (by lia) (by lia) (by rw [Int.toNat_natCast]; exact hvi) ?_
          refine in_list_ints (Fr.lst F₉ hhl) hhi ?_
          rw [any_contains]
          have htk := take_filter (p := fun x => H.contains x) hx2
          walk1
          by_cases hcn : H.contains hx1 = true
          · refine ite_pos hcn ?_
            rw [if_pos hcn] at htk
            walk1
            refine hQc1 _ _ ?_
            refine LCg.CompEnd.intro F₉ N₉ _ (fun p hp => hp) off0 (.inr ⟨_, in_imm hba4, rfl, _, rfl⟩) ⟨rfl, ?_⟩
            rw [htk]
            exact ints_app hys (.cons _ _ .nil)
          · refine ite_neg hcn ?_
            rw [if_neg hcn, List.append_nil] at htk
            refine hQc1F _ ?_
            refine LCg.CompEnd.intro F₉ N₉ _ (fun p hp => hp) off0 (.inr ⟨_, in_imm hba4, rfl, _, rfl⟩) ⟨rfl, ?_⟩
            rw [htk]
            exact hys
        case cfin =>
          rintro ys nw ⟨rfl, hys⟩
          unfold LCg.FinE
          intro D2 h7 tk7 F7 N7 off7
          simp only [LCg.Off1] at off7
          rw [List.size_toArray, hbl, List.take_length] at hys
          iterate 2 walk1
          have hlt7 := news_lt N7
          refine newList_N (by simp) F7 N7 (fun h8 F8 N8 => ?_)
          dsimp only at F8 N8 ⊢
          generalize h7.objs.size = e2 at *
          clear F7 N7
          refine eq_intsK (vs := ys) (us := []) ⟨_, (N8 _ mm1).1, rfl, _, rfl⟩ hys ⟨_, (N8 _ mm0).1, rfl, _, rfl⟩ .nil (by show un + 3 + 64 < _; lia) ?_
          walk1
          have hwk : way.getD k [] = blk := by rw [List.getD_eq_getElem?_getD, hblk]; rfl
          by_cases hfe : blk.filter (fun x => H.contains x) = []
          · refine ite_pos (by simpa using hfe) ?_
            iterate 16 walk1
            have hlt8 := news_lt N8
            have hg8 := hlt8 _ mm2
            dsimp only at hg8
            refine slice_list3 (items := us.toArray) (lo := none) (hi := some (k : Int)) (st := none) F8 N8 ⟨_, (N8 _ (.tail _ (.tail _ (in_imm hwa4)))).1, rfl, _, rfl⟩ .none (.int _ _) .none (by simp) (fun h10 F10 N10 => ?_) (hsz := by rw [List.size_toArray, sizeLine_eq]; lia)
            rw [slicePick_upto'] at N10
            dsimp only at F10 N10 ⊢
            generalize h8.objs.size + 1 = b1 at *
            clear F8 N8
            iterate 6 walk1
            refine item_listL (l := us) ⟨_, (N10 _ (.tail _ (.tail _ (.tail _ (in_imm hwa4))))).1, rfl, _, rfl⟩ (by lia) (by lia) (by rw [Int.toNat_natCast]; exact hbv) ?_
            iterate 4 walk1
            have hlt10 := news_lt N10
            refine newList_N (by simp) F10 N10 (fun h11 F11 N11 => ?_)
            dsimp only at F11 N11 ⊢
            generalize h10.objs.size = c1 at *
            clear F10 N10
            have hlt11 := news_lt N11
            refine add_lists (vs := bus) (ws := [.int (i : Int) tv]) F11 N11 ⟨_, (N11 _ (.tail _ (.tail _ (.tail _ (.tail _ (in_imm hba4)))))).1, rfl, _, rfl⟩ ⟨_, (N11 _ mm0).1, rfl, _, rfl⟩ (fun h12 F12 N12 => ?_) (by rw [sizeLine_eq, List.length_singleton]; lia)
            dsimp only at F12 N12 ⊢
            generalize h11.objs.size = c2 at *
            clear F11 N11
            have hg2 := hlt11 _ mm4
            dsimp only at hg2
            walk1
            refine newList_N (by simp) F12 N12 (fun h13 F13 N13 => ?_)
            dsimp only at F13 N13 ⊢
            generalize h12.objs.size = c3 at *
            clear F12 N12
            refine add_lists (vs := us.take k) (ws := [.ref c2]) F13 N13 ⟨_, (N13 _ mm3).1, rfl, _, rfl⟩ ⟨_, (N13 _ mm0).1, rfl, _, rfl⟩ (fun h14 F14 N14 => ?_) (by rw [sizeLine_eq, List.length_singleton, List.length_take]; lia)
            dsimp only at F14 N14 ⊢
            generalize h13.objs.size = c4 at *
            clear F13 N13
            iterate 10 walk1
            refine slice_list3 (items := us.toArray) (lo := some ((k : Int) + 1)) (hi := none) (st := none) F14 N14 ⟨_, (N14 _ (.tail _ (.tail _ (.tail _ (.tail _ (.tail _ (.tail _ (.tail _ (in_imm hwa4))))))))).1, rfl, _, rfl⟩ (.int _ _) .none .none (by simp) (fun h15 F15 N15 => ?_) (hsz := by rw [List.size_toArray, sizeLine_eq]; lia)
            rw [show (k : Int) + 1 = ((k + 1 : Nat) : Int) from by lia, slicePick_from'] at N15
            dsimp only at F15 N15 ⊢
            generalize h14.objs.size + 1 = b5 at *
            clear F14 N14
            have hlt15' := news_lt N15
            have hg6 := hlt15' _ mm8
            refine add_lists (vs := us.take k ++ [.ref c2]) (ws := us.drop (k + 1)) F15 N15 ⟨_, (N15 _ mm1).1, rfl, _, rfl⟩ ⟨_, (N15 _ mm0).1, rfl, _, rfl⟩ (fun h16 F16 N16 => ?_) (by rw [sizeLine_eq, List.length_append, List.length_singleton, List.length_take, List.length_drop]; lia)
            dsimp only at F16 N16 hg6 ⊢
            generalize h15.objs.size = c6 at *
            clear F15 N15
            have N17 := re_news2 N16
            clear N16
            walk1
            have hgvl4 := hgw4.length
            have hgs4 := grow_small (hss := hss) hi6 (t + 1)
            have hamo := atPlaces_mono (H := hss.getD i []) (one := (i : Int)) (way := way) (k := k) (n := way.length) (by lia)
            rw [grow_next hway] at hgs4
            simp only [List.length_append] at hgvl4 hgs4
            obtain ⟨imm5, himm5⟩ : ∃ r, r = (c6, PySem.W.listOf (us.take k ++ [Value.ref c2] ++ us.drop (k + 1)).toArray 0) :: (c2, PySem.W.listOf (bus ++ [Value.int (i : Int) tv]).toArray 0) :: imm4 := ⟨_, rfl⟩
            have N18 : News h₀ s.heap.objs.size h16 ((gr, PySem.W.listOf (List.toArray gvs) gc) :: (s.heap.objs.size + 1 + 1 + 1, oS) :: (s.heap.objs.size + 1 + 1, oO') :: (s.heap.objs.size + 1, oH) :: (imm5 ++ (own ++ own2) ++ own3)) := by
              rw [himm5]
              exact N17
            clear N17
            have hi6' : ∀ p ∈ imm5, isLst p.2 ∧ p.1 ≠ gr := by
              rw [himm5]
              exact fa_cons ⟨⟨_, _, rfl⟩, Nat.ne_of_gt hg6⟩ (fa_cons ⟨⟨_, _, rfl⟩, Nat.ne_of_gt hg2⟩ fun p hp => (hi4 p hp).2)
            have hcgr5 : ∀ p ∈ (s.heap.objs.size + 1 + 1 + 1, oS) :: (s.heap.objs.size + 1 + 1, oO') :: (s.heap.objs.size + 1, oH) :: (imm5 ++ (own ++ own2) ++ own3), p.1 ≠ gr :=
              fa_cons (Nat.ne_of_lt (hlt4 _ mm0)) (fa_cons (Nat.ne_of_lt (hlt4 _ mm1)) (fa_cons (Nat.ne_of_lt (hlt4 _ mm2)) (fa_app (fa_app (fun p hp => (hi6' p hp).2) (fa_app ho3 ho4)) ho6)))
            refine append_K F16 N18 (.head hcgr5) (fun h17 F17 N19 => ?_) (by rw [List.size_toArray, sizeLine_eq]; lia)
            rw [List.push_toArray] at N19
            clear F16 N18
            iterate 2 walk1
            dsimp only
            refine wpAny_execs_nil ?_
            have him5 : ∀ p ∈ imm4, p ∈ imm5 := fun p hp => by rw [himm5]; exact .tail _ (.tail _ hp)
            have hiI : ∀ p ∈ imm, p ∈ imm5 := fun p hp => him5 _ (hi5 _ (by rw [himm3]; exact .tail _ (.tail _ (hi3 _ hp))))
            have hus5 : F2 (IL imm5) us way := hus.mono fun _ _ x => x.mono hiI
            have hWL5 : WL imm5 (.ref c6) (way.take k ++ [blk ++ [(i : Int)]] ++ way.drop (k + 1)) := ⟨c6, us.take k ++ [Value.ref c2] ++ us.drop (k + 1), 0, rfl, by rw [himm5]; exact mm0, ((hus5.take k).append (.cons ⟨c2, bus ++ [Value.int (i : Int) tv], 0, rfl, by rw [himm5]; exact mm1, ints_app hbi (.cons _ _ .nil)⟩ .nil)).append (hus5.drop (k + 1))⟩
            refine hQt3 _ ?_
            refine LoopEnd.intro F17 N19 (fun p hp => .tail _ (.tail _ (.tail _ (.tail _ (List.mem_append_right _ hp))))) ?_
            refine ⟨some (.int (k : Int) tv3), gvs ++ [.ref c6], gc + 1, imm5, ?_, mm1, mm2, mm3, mm0, fun p hp => ⟨in_imm hp, hi6' p hp⟩, fun p hp => him5 _ (hi5 p hp), fun p hp => .tail _ (.tail _ (.tail _ (.tail _ (List.mem_append_left _ (List.mem_append_right _ hp))))), ?_⟩
            · rw [hm3]
              exact n4_a
            · have e9 : atPlaces (hss.getD i []) (i : Int) way (k + 1) = atPlaces (hss.getD i []) (i : Int) way k ++ [way.take k ++ [blk ++ [(i : Int)]] ++ way.drop (k + 1)] := by
                simp only [atPlaces]
                rw [hwk, hHD, if_pos hfe]
              rw [e9, ← List.append_assoc]
              exact (WW.mono him5 hgw4).append (.cons hWL5 .nil)
          · refine ite_neg (by simpa using hfe) ?_
            iterate 2 walk1
            refine hQt3 _ ?_
            refine LoopEnd.intro F8 N8 (fun p hp => .tail _ (.tail _ (.tail _ (.tail _ (.tail _ (.tail _ (List.mem_append_right _ hp))))))) ?_
            refine ⟨some (.int (k : Int) tv3), gvs, gc, imm4, ?_, mm3, mm4, mm5, mm2, fun p hp => ⟨.tail _ (.tail _ (in_imm hp)), (hi4 p hp).2⟩, hi5, fun p hp => .tail _ (.tail _ (.tail _ (.tail _ (.tail _ (.tail _ (List.mem_append_left _ (List.mem_append_right _ hp))))))), ?_⟩
            · rw [hm3]
              exact n4_a
            · have e9 : atPlaces (hss.getD i []) (i : Int) way (k + 1) = atPlaces (hss.getD i []) (i : Int) way k := by
                simp only [atPlaces]
                rw [hwk, hHD, if_neg hfe, List.append_nil]
              rw [e9]
              exact hgw4
end Mine
end
section
theorem Mine.startLawBase : True := by
  w_top off
  trivial
open PySem PySem.Spec PySem.Calls PyProof.Rows PySem.W
set_option maxRecDepth 100000
set_option maxHeartbeats 8000000
namespace Mine
noncomputable def lawDef : List Stmt × Scope := match PySem.Challenge.pw_xe0036_01.main.body.getLast? with
  | some (.FunctionDef _ _ b _ _ _ sc _ _ _) => (b, sc)
  | _ => ([], default)
noncomputable abbrev lawE (L fa : Addr) (cd : Value) : Env := envOfC (Str.ofString "law") lawDef.2 L fa cd
noncomputable abbrev lawA (L fa : Addr) (cd : Value) : Around := callerA.deeper (lawE L fa cd)
/-- what a store holds -/
noncomputable def Has (m : Str → Option Value) (l : List (Str × Value)) : Prop := ∀ p ∈ l, m p.1 = some p.2
noncomputable def chain : List (Str × Value) → (Str → Option Value) → Str → Option Value
  | [], m, y => m y
  | (x, v) :: r, m, y => if y = x then some v else chain r m y
theorem Has.nf {m : Str → Option Value} : ∀ {l : List (Str × Value)}, Has m l → m = fun y => chain l m y
  | [], _ => rfl
  | (x, v) :: r, h => by
    have ih := Has.nf (m := m) (l := r) fun p hp => h p (.tail _ hp)
    funext y
    show m y = if y = x then some v else chain r m y
    by_cases e : y = x
    · rw [if_pos e, e]; exact h _ (.head _)
    · rw [if_neg e]; exact congrFun ih y
theorem has_cons {m : Str → Option Value} {x : Str} {v : Value} {l : List (Str × Value)} (h : m x = some v) (r : Has m l) : Has m ((x, v) :: l) := fun p hp => by
  rcases List.mem_cons.mp hp with rfl | hp
  · exact h
  · exact r p hp
theorem has_nil {m : Str → Option Value} : Has m [] := fun p hp => nomatch hp
section
variable {a b c d e f : Str} {m m0 : Str → Option Value}
theorem ag1 (h : ∀ y, y ≠ a → m y = m0 y) : ∃ A, m = fun y => if y = a then A else m0 y :=
  ⟨m a, funext fun y => by
    by_cases h1 : y = a
    · rw [if_pos h1, h1]
    · rw [if_neg h1]; exact h y h1⟩
theorem ag2 (h : ∀ y, y ≠ a → y ≠ b → m y = m0 y) : ∃ A B, m = fun y => if y = a then A else if y = b then B else m0 y :=
  ⟨m a, m b, funext fun y => by
    by_cases h1 : y = a
    · rw [if_pos h1, h1]
    by_cases h2 : y = b
    · rw [if_neg h1, if_pos h2, h2]
    rw [if_neg h1, if_neg h2]; exact h y h1 h2⟩
theorem ag3 (h : ∀ y, y ≠ a → y ≠ b → y ≠ c → m y = m0 y) : ∃ A B C, m = fun y => if y = a then A else if y = b then B else if y = c then C else m0 y :=
  ⟨m a, m b, m c, funext fun y => by
    by_cases h1 : y = a
    · rw [if_pos h1, h1]
    by_cases h2 : y = b
    · rw [if_neg h1, if_pos h2, h2]
    by_cases h3 : y = c
    · rw [if_neg h1, if_neg h2, if_pos h3, h3]
    rw [if_neg h1, if_neg h2, if_neg h3]; exact h y h1 h2 h3⟩
theorem ag4 (h : ∀ y, y ≠ a → y ≠ b → y ≠ c → y ≠ d → m y = m0 y) : ∃ A B C D, m = fun y => if y = a then A else if y = b then B else if y = c then C else if y = d then D else m0 y :=
  ⟨m a, m b, m c, m d, funext fun y => by
    by_cases h1 : y = a
    · rw [if_pos h1, h1]
    by_cases h2 : y = b
    · rw [if_neg h1, if_pos h2, h2]
    by_cases h3 : y = c
    · rw [if_neg h1, if_neg h2, if_pos h3, h3]
    by_cases h4 : y = d
    · rw [if_neg h1, if_neg h2, if_neg h3, if_pos h4, h4]
    rw [if_neg h1, if_neg h2, if_neg h3, if_neg h4]; exact h y h1 h2 h3 h4⟩
end
/-- a value that is a text -/
noncomputable def strV (v : Value) (l : List Nat) : Prop := ∃ t, v = .str ⟨l.toArray⟩ t

theorem drop_four {h₀ h : Heap} {L : Addr} {n a b c d : Addr × Obj} {r : List (Addr × Obj)} (N : News h₀ L h (n :: a :: b :: c :: d :: r)) : News h₀ L h (n :: r) := fun p hp => by
  rcases List.mem_cons.mp hp with rfl | hp
  · exact N _ (.head _)
  · exact N _ (.tail _ (.tail _ (.tail _ (.tail _ (.tail _ hp)))))
theorem news_re {h₀ h : Heap} {L : Addr} {nw own imm : List (Addr × Obj)} (A : List (Addr × Obj)) (hin : ∀ p ∈ A ++ imm, p ∈ nw) (N : News h₀ L h (nw ++ own)) : News h₀ L h (A ++ (imm ++ own)) := fun p hp => N p (by
  rw [← List.append_assoc] at hp
  rcases List.mem_append.mp hp with hp | hp
  · exact List.mem_append_left _ (hin p hp)
  · exact List.mem_append_right _ hp)
/-- the whole range of names -/
theorem off_of {imm own : List (Addr × Obj)} {hA It : Addr} (him : ∀ p ∈ imm, isLst p.2 ∧ @LT.lt Nat _ hA p.1) (ho : ∀ p ∈ own, p.1 = It) (h : @LT.lt Nat _ hA It) : ∀ p ∈ imm ++ own, @LT.lt Nat _ hA p.1 := fun p hp => by
  rcases List.mem_append.mp hp with hp | hp
  · exact (him p hp).2
  · rw [ho p hp]; exact h
noncomputable abbrev mkS (l : List Nat) : Str := ⟨l.toArray⟩
theorem mkS_app (l m : List Nat) : mkS l ++ mkS m = mkS (l ++ m) := by
  show Str.mk (l.toArray ++ m.toArray) = _
  rw [List.append_toArray]
theorem mkS_len (l : List Nat) : (mkS l).length = l.length := by show l.toArray.size = _; simp
theorem in_turn1 {e : Addr × Obj} (X : List (Addr × Obj)) {imm own : List (Addr × Obj)} : (∀ p ∈ X ++ (e :: imm), p ∈ e :: (X ++ (imm ++ own))) ∧ ∀ p ∈ own, p ∈ e :: (X ++ (imm ++ own)) :=
  ⟨fun p hp => by
    rcases List.mem_append.mp hp with q | q
    · exact .tail _ (List.mem_append_left _ q)
    · rcases List.mem_cons.mp q with rfl | q
      · exact .head _
      · exact .tail _ (List.mem_append_right _ (List.mem_append_left _ q)), fun p hp => .tail _ (List.mem_append_right _ (List.mem_append_right _ hp))⟩
theorem in_turn2 {e f : Addr × Obj} (X : List (Addr × Obj)) {imm own : List (Addr × Obj)} : (∀ p ∈ X ++ (e :: f :: imm), p ∈ e :: f :: (X ++ (imm ++ own))) ∧ ∀ p ∈ own, p ∈ e :: f :: (X ++ (imm ++ own)) :=
  ⟨fun p hp => by
    rcases List.mem_append.mp hp with q | q
    · exact .tail _ (.tail _ (List.mem_append_left _ q))
    · rcases List.mem_cons.mp q with rfl | q
      · exact .head _
      · rcases List.mem_cons.mp q with rfl | q
        · exact .tail _ (.head _)
        · exact .tail _ (.tail _ (List.mem_append_right _ (List.mem_append_left _ q))), fun p hp => .tail _ (.tail _ (List.mem_append_right _ (List.mem_append_right _ hp)))⟩
end Mine
end
section
theorem Mine.startChain : True := by
  w_top off
  trivial
open PySem PySem.Spec PySem.Calls PyProof.Rows PySem.W
set_option maxRecDepth 100000
namespace Mine
noncomputable def tailsL : List (List Nat) := [[], [55], [45, 97], [90]]
noncomputable def dotLocal : List Nat := [46, 108, 111, 99, 97, 108]
noncomputable def parOf (ns : List Int) (k : Nat) : Int := ns.getD k 0 % ((k : Int) + 1) - 1
noncomputable def labOf (ns : List Int) (k : Nat) : List Nat := (97 + k) :: tailsL.getD (ns.getD k 0 / ((k : Int) + 1) % 4).toNat []
noncomputable def parsL (ns : List Int) (j : Nat) : List Int := (List.range j).map (parOf ns)
noncomputable def labsL (ns : List Int) (j : Nat) : List (List Nat) := (List.range j).map (labOf ns)
noncomputable def hold1 (H : List (List Int)) (p : Int) : List Int := if p < 0 then [] else H.getD p.toNat [] ++ [p]
noncomputable def host1 (O : List (List Nat)) (lab : List Nat) (p : Int) : List Nat := if p < 0 then lab ++ dotLocal else lab ++ 46 :: O.getD p.toNat []
noncomputable def holdsL (ps : List Int) : Nat → List (List Int)
  | 0 => []
  | k + 1 => holdsL ps k ++ [hold1 (holdsL ps k) (ps.getD k 0)]
noncomputable def hostsL (labs : List (List Nat)) (ps : List Int) : Nat → List (List Nat)
  | 0 => []
  | k + 1 => hostsL labs ps k ++ [host1 (hostsL labs ps k) (labs.getD k []) (ps.getD k 0)]
theorem parsL_succ (ns : List Int) (j : Nat) : parsL ns (j + 1) = parsL ns j ++ [parOf ns j] := by simp [parsL, List.range_succ]
theorem labsL_succ (ns : List Int) (j : Nat) : labsL ns (j + 1) = labsL ns j ++ [labOf ns j] := by simp [labsL, List.range_succ]
theorem parsL_get {ns : List Int} {M j : Nat} (h : j < M) : (parsL ns M).getD j 0 = parOf ns j := by
  simp [parsL, List.getD_eq_getElem?_getD, h]
theorem labsL_get {ns : List Int} {M j : Nat} (h : j < M) : (labsL ns M).getD j [] = labOf ns j := by
  simp [labsL, List.getD_eq_getElem?_getD, h]
theorem labsL_get? {ns : List Int} {M j : Nat} (h : j < M) : (labsL ns M)[j]? = some (labOf ns j) := by
  simp [labsL, h]
theorem holdsL_len (ps : List Int) : ∀ k, (holdsL ps k).length = k
  | 0 => rfl
  | k + 1 => by simp [holdsL, holdsL_len ps k]
theorem hostsL_len (labs : List (List Nat)) (ps : List Int) : ∀ k, (hostsL labs ps k).length = k
  | 0 => rfl
  | k + 1 => by simp [hostsL, hostsL_len labs ps k]
theorem parsL_len (ns : List Int) (j : Nat) : (parsL ns j).length = j := by simp [parsL]
theorem labsL_len (ns : List Int) (j : Nat) : (labsL ns j).length = j := by simp [labsL]
theorem parOf_bounds (ns : List Int) (k : Nat) : -1 ≤ parOf ns k ∧ parOf ns k < k := by
  unfold parOf
  have h1 := Int.emod_nonneg (ns.getD k 0) (show ((k : Int) + 1) ≠ 0 by lia)
  have h2 := Int.emod_lt_of_pos (ns.getD k 0) (show 0 < ((k : Int) + 1) by lia)
  lia
theorem tailsL_short : ∀ i, (tailsL.getD i []).length ≤ 2
  | 0 => by decide
  | 1 => by decide
  | 2 => by decide
  | 3 => by decide
  | i + 4 => by simp [tailsL]
theorem labOf_len (ns : List Int) (k : Nat) : (labOf ns k).length ≤ 3 := by
  unfold labOf
  have := tailsL_short (ns.getD k 0 / ((k : Int) + 1) % 4).toNat
  simp only [List.length_cons]
  lia
theorem getD_append_left {α : Type} {l m : List α} {i : Nat} {d : α} (h : i < l.length) : (l ++ m).getD i d = l.getD i d := by
  simp [List.getD_eq_getElem?_getD, List.getElem?_append_left h]
theorem getD_append_len {α : Type} {l : List α} {x d : α} : (l ++ [x]).getD l.length d = x := by
  simp [List.getD_eq_getElem?_getD]
theorem hostsL_short {labs : List (List Nat)} {ps : List Int} (hl : ∀ l ∈ labs, l.length ≤ 3) : ∀ k, ∀ o ∈ hostsL labs ps k, o.length ≤ 6 + 4 * k
  | 0, o, h => by simp [hostsL] at h
  | k + 1, o, h => by
    have ih := hostsL_short (ps := ps) hl k
    have h3 : (labs.getD k []).length ≤ 3 := by
      rw [List.getD_eq_getElem?_getD]
      cases e : labs[k]? with
      | none => simp
      | some x => exact hl x (List.mem_of_getElem? e)
    simp only [hostsL] at h
    rcases List.mem_append.mp h with h | h
    · have := ih o h; lia
    · rw [List.mem_singleton] at h
      subst h
      unfold host1
      split
      · rw [List.length_append]; have : dotLocal.length = 6 := rfl; lia
      · have h4 : ((hostsL labs ps k).getD (ps.getD k 0).toNat []).length ≤ 6 + 4 * k := by
          rw [List.getD_eq_getElem?_getD]
          cases e : (hostsL labs ps k)[(ps.getD k 0).toNat]? with
          | none => simp
          | some x => exact ih x (List.mem_of_getElem? e)
        simp only [List.length_append, List.length_cons]
        lia
theorem labsL_short (ns : List Int) (M : Nat) : ∀ l ∈ labsL ns M, l.length ≤ 3 := by
  intro l h
  simp only [labsL, List.mem_map] at h
  obtain ⟨k, _, rfl⟩ := h
  exact labOf_len ns k
theorem holdsL_short {ps : List Int} : ∀ k, ∀ h ∈ holdsL ps k, h.length ≤ k
  | 0, h, q => by simp [holdsL] at q
  | k + 1, h, q => by
    have ih := holdsL_short (ps := ps) k
    simp only [holdsL] at q
    rcases List.mem_append.mp q with q | q
    · have := ih h q; lia
    · rw [List.mem_singleton] at q
      subst q
      unfold hold1
      split
      · simp
      · have h4 : ((holdsL ps k).getD (ps.getD k 0).toNat []).length ≤ k := by
          rw [List.getD_eq_getElem?_getD]
          cases e : (holdsL ps k)[(ps.getD k 0).toNat]? with
          | none => simp
          | some x => exact ih x (List.mem_of_getElem? e)
        simp only [List.length_append, List.length_singleton]
        lia
end Mine
end
section
theorem Mine.startSegB : True := by
  w_top off
  trivial
open PySem PySem.Spec PySem.Calls PyProof.Rows PySem.W
set_option maxRecDepth 100000
set_option maxHeartbeats 8000000
namespace Mine
theorem segB : ∀ {w : World} {L fa : Addr} {cd : Value} {R : Flow → Shared → Prop} {E : Value → Shared → Prop} {s : Shared} {h₀ : Heap} {p : Program} {loose : List Str} {mean : ExcName → Option Value} {mg mb : Str → Option Value} {m : Str → Option Value}
    {M : Nat} {tM tT : Tok} {tot : Int} {nA tA pA lA hA dA : Addr} {nv tv : List Value} {ns : List Int} {cn ct : Nat} {oR oH oD : Obj} {t80 t73 : Obj},
    ∀ (X : (Mine.hd.heap_39 w.params).In h₀) (T : Top p loose mean mg mb h₀)
    (F : Fr h₀ L s.heap m) (hm : Has m [(Str.ofString "many", .int M tM), (Str.ofString "numbers", .ref nA), (Str.ofString "total", .int tot tT), (Str.ofString "tails", .ref tA), (Str.ofString "parents", .ref pA), (Str.ofString "labels", .ref lA)])
    (N : News h₀ L s.heap [(hA, PySem.W.listOf #[] 0), (lA, PySem.W.listOf #[] 0), (dA, PySem.W.listOf #[] 0), (pA, PySem.W.listOf #[] 0), (tA, PySem.W.listOf tv.toArray ct), (nA, PySem.W.listOf nv.toArray cn), (L + 1 + 1 + 1, oR), (L + 1 + 1, oH), (L + 1, oD), (80, t80), (73, t73)])
    (dR : oR.data = .cell none) (dH : oH.data = .cell (some (.ref hA))) (dD : oD.data = .cell (some (.ref dA)))
    (hns : IntsAre nv ns) (htv : F2 strV tv tailsL) (hM : M ≤ 6) (hlen : M ≤ ns.length) (n80 : notIt t80 = true) (n73 : notIt t73 = true)
    (ord : @LT.lt Nat _ (L + 1 + 1 + 1) nA ∧ @LT.lt Nat _ nA tA ∧ @LT.lt Nat _ tA pA ∧ @LT.lt Nat _ pA dA ∧ @LT.lt Nat _ dA lA ∧ @LT.lt Nat _ lA hA ∧ @LT.lt Nat _ 80 L ∧ @LT.lt Nat _ 73 L)
    (k : ∀ h tk m pv cp lv cl hv ch dv cdd imm, Fr h₀ L h m → Has m [(Str.ofString "many", .int M tM), (Str.ofString "total", .int tot tT), (Str.ofString "parents", .ref pA), (Str.ofString "labels", .ref lA)] →
      News h₀ L h ((hA, PySem.W.listOf (List.toArray hv) ch) :: (lA, PySem.W.listOf (List.toArray lv) cl) :: (dA, PySem.W.listOf (List.toArray dv) cdd) :: (pA, PySem.W.listOf (List.toArray pv) cp) :: (L + 1 + 1 + 1, oR) :: (L + 1 + 1, oH) :: (L + 1, oD) :: (80, t80) :: (73, t73) :: imm) →
      (∀ p ∈ imm, isLst p.2 ∧ @LT.lt Nat _ hA p.1) → IntsAre pv (parsL ns M) → F2 strV lv (labsL ns M) → F2 strV hv (hostsL (labsL ns M) (parsL ns M) M) → F2 (IL imm) dv (holdsL (parsL ns M) M) →
      wpAny (model PySem.Challenge.rw_xe0036_01.row.prog w) (lawA L fa cd) (execs (lawDef.1.drop 10) (lawE L fa cd)) R E { s with heap := h, toks := tk }),

    wpAny (model PySem.Challenge.rw_xe0036_01.row.prog w) (lawA L fa cd) (execs (lawDef.1.drop 9) (lawE L fa cd)) R E s := by
  k_fill
  intro w L fa cd R E s h₀ p loose mean mg mb m M tM tT tot nA tA pA lA hA dA nv tv ns cn ct oR oH oD t80 t73 X T F hm N dR dH dD hns htv hM hlen n80 n73 ord k
  conv at k in (List.drop _ _) => whnf
  conv in (List.drop _ _) => whnf
  unfold lawA lawE at k ⊢
  conv at k in lawDef.2 => whnf
  conv at k in lawDef.2 => whnf
  conv in lawDef.2 => whnf
  conv in lawDef.2 => whnf
  have hm0 := hm.nf
  rw [hm0] at F
  dsimp only [chain] at F
  refine wpAny_execs_cons ?_
  refine wpAny_For ?_
  iterate 7 walk1
  rename IsRange _ _ _ _ _ _ _ _ => Rg
  rename Fr _ _ _ _ => F3
  rename News _ _ _ _ => N3
  obtain ⟨m3, hm3⟩ : ∃ m3, m3 = mOf F3 := ⟨_, rfl⟩
  have ⟨hrs, hrm⟩ := up_size (a := 0) (n := M) (b := (M : Int)) (by lia) (by lia) (by lia) (by lia) (by lia)
  have hlt3 := news_lt N3
  obtain ⟨o1, o2, o3, o4, o5, o6, o7, o8⟩ := ord
  have hIt := hlt3 _ mm0
  dsimp only at hIt
  refine iterRange_J rfl Rg hrm hrs F3 N3 (fun j m' nw => (∀ y, y ≠ Str.ofString "one" → y ≠ Str.ofString "parent" → m' y = m3 y) ∧ ∃ pv cp lv cl hv ch dv cdd imm,
    (∀ p ∈ (hA, PySem.W.listOf (List.toArray hv) ch) :: (lA, PySem.W.listOf (List.toArray lv) cl) :: (dA, PySem.W.listOf (List.toArray dv) cdd) :: (pA, PySem.W.listOf (List.toArray pv) cp) :: (tA, PySem.W.listOf tv.toArray ct) :: (nA, PySem.W.listOf nv.toArray cn) :: (L + 1 + 1 + 1, oR) :: (L + 1 + 1, oH) :: (L + 1, oD) :: (80, t80) :: (73, t73) :: imm, p ∈ nw)
    ∧ (∀ p ∈ imm, isLst p.2 ∧ @LT.lt Nat _ hA p.1) ∧ IntsAre pv (parsL ns j) ∧ F2 strV lv (labsL ns j) ∧ F2 strV hv (hostsL (labsL ns M) (parsL ns M) j) ∧ F2 (IL imm) dv (holdsL (parsL ns M) j)) ?mono ?start ?turn ?done
  case mono =>
    rintro j m' nw nw' ⟨e, pv, cp, lv, cl, hv, ch, dv, cdd, imm, hin, him, r⟩ hk
    refine ⟨e, pv, cp, lv, cl, hv, ch, dv, cdd, imm, fun p hp => hk p (hin p hp) (.inl ?_), him, r⟩
    exact (fa_cons (P := fun p : Addr × Obj => notIt p.2 = true) rfl (fa_cons rfl (fa_cons rfl (fa_cons rfl (fa_cons rfl (fa_cons rfl (fa_cons (notIt_cell dR) (fa_cons (notIt_cell dH) (fa_cons (notIt_cell dD) (fa_cons n80 (fa_cons n73 fun p hp => (him p hp).1.notIt))))))))))) p hp
  case start =>
    exact ⟨fun y _ _ => by rw [hm3]; rfl, [], 0, [], 0, [], 0, [], 0, [], fun p hp => hp, (fun p hp => nomatch hp), .nil, .nil, .nil, .nil⟩
  case done =>
    rintro m₁ news₁ h tk ⟨hag, pv, cp, lv, cl, hv, ch, dv, cdd, imm, hin, him, hpv, hlv, hhv, hdv⟩ F N
    obtain ⟨a1, a2, rfl⟩ := ag2 hag
    rw [hm3] at F
    dsimp only [mOf] at F
    refine k h tk _ pv cp lv cl hv ch dv cdd imm F ?has (fun p hp => N p (hin p ?sb)) him hpv hlv hhv hdv
    case has => exact has_cons rfl (has_cons rfl (has_cons rfl (has_cons rfl has_nil)))
    case sb =>
      rcases List.mem_append.mp (show p ∈ [_, _, _, _] ++ _ from hp) with hp | hp
      · exact List.mem_append_left _ hp
      · exact List.mem_append_right [_, _, _, _, _, _] hp
  case turn =>
    rintro j tv' m₁ news₁ h tkA own E₁ hj ⟨hag, pv, cp, lv, cl, hv, ch, dv, cdd, imm, hin, him, hpv, hlv, hhv, hdv⟩ ho F N
    refine turn_gen fun Qt1 hQt1 => ?_
    obtain ⟨a1, a2, rfl⟩ := ag2 hag
    rw [hm3] at F
    dsimp only [mOf] at F
    obtain ⟨rest, hrest⟩ : ∃ rest, rest = imm ++ own := ⟨_, rfl⟩
    have N' : News h₀ L h ((hA, PySem.W.listOf (List.toArray hv) ch) :: (lA, PySem.W.listOf (List.toArray lv) cl) :: (dA, PySem.W.listOf (List.toArray dv) cdd) :: (pA, PySem.W.listOf (List.toArray pv) cp) :: (tA, PySem.W.listOf tv.toArray ct) :: (nA, PySem.W.listOf nv.toArray cn) :: (L + 1 + 1 + 1, oR) :: (L + 1 + 1, oH) :: (L + 1, oD) :: (80, t80) :: (73, t73) :: rest) := by
      rw [hrest]
      exact news_re [_, _, _, _, _, _, _, _, _, _, _] hin N
    have hoff : ∀ p ∈ rest, @LT.lt Nat _ hA p.1 := by rw [hrest]; exact off_of him ho hIt
    have hOff : OwnOff rest [hA, lA, dA, pA] := fun p hp b hb => by
      have := hoff p hp
      simp only [List.mem_cons, List.not_mem_nil, or_false] at hb
      rcases hb with rfl | rfl | rfl | rfl <;> exact Nat.ne_of_gt (by lia)
    have e1 : (0 : Int) + (j : Int) * 1 = (j : Int) := by lia
    rw [e1]
    clear N
    have hj6 : j < 6 := by lia
    iterate 9 walk1
    rename Fr _ _ _ _ => F4
    rename News _ _ _ _ => N4
    rename Nat => tkB
    have hget : ns.getD ((j : Int)).toNat 0 = ns.getD j 0 := by rw [Int.toNat_natCast]
    have hsQ : True → IntsAre nv ns := fun _ => hns
    refine item_anyK ⟨_, (N4 _ mm5).1, rfl, _, rfl⟩ hns (by lia) (by lia) (by lia) fun t5 => ?_
    rw [hget]
    have hb := parOf_bounds ns j
    iterate 7 walk1
    have hpq : (ns.getD j 0).fmod ((j : Int) + 1) - 1 = parOf ns j := by
      unfold parOf
      rw [Int.fmod_eq_emod_of_nonneg _ (by lia)]
    rw [hpq]
    obtain ⟨q, hq⟩ : ∃ q, q = parOf ns j := ⟨_, rfl⟩
    rw [← hq] at hb ⊢
    iterate 10 walk1
    rename Fr _ _ _ _ => F5
    rename News _ _ _ _ => N5
    have hpl : pv.length = j := by rw [hpv.length, parsL_len]
    have hpvQ : True → IntsAre pv (parsL ns j) := fun _ => hpv
    have ne1 : hA ≠ pA ∧ lA ≠ pA ∧ dA ≠ pA ∧ tA ≠ pA ∧ nA ≠ pA ∧ L + 1 + 1 + 1 ≠ pA ∧ L + 1 + 1 ≠ pA ∧ L + 1 ≠ pA ∧ 80 ≠ pA ∧ 73 ≠ pA := ⟨Nat.ne_of_gt (by lia), Nat.ne_of_gt (by lia), Nat.ne_of_gt (by lia), Nat.ne_of_lt (by lia), Nat.ne_of_lt (by lia), Nat.ne_of_lt (by lia), Nat.ne_of_lt (by lia), Nat.ne_of_lt (by lia), Nat.ne_of_lt (by lia), Nat.ne_of_lt (by lia)⟩
    obtain ⟨x1, x2, x3, x4, x5, x6, x7, x8, x9, x10⟩ := ne1
    refine append_K F5 N5 (.tail x1 (.tail x2 (.tail x3 (.head (fa_cons x4 (fa_cons x5 (fa_cons x6 (fa_cons x7 (fa_cons x8 (fa_cons x9 (fa_cons x10 fun p hp => hOff p hp _ (by simp))))))))))) ) (fun h6 F6 N6 => ?_) (by rw [List.size_toArray, sizeLine_eq]; lia)
    rw [List.push_toArray] at N6
    clear F5 N5 x1 x2 x3 x4 x5 x6 x7 x8 x9 x10
    iterate 12 walk1
    have hj0 : 0 ≤ (j : Int) := by lia
    have hjl : (j : Int) < (Str.ofString "abcdef").length := by show (j : Int) < 6; lia
    iterate 16 walk1
    rename Fr _ _ _ _ => F7
    rename News _ _ _ _ => N7
    rw [hget]
    have hix : ((ns.getD j 0).fdiv ((j : Int) + 1)).fmod 4 = (ns.getD j 0) / ((j : Int) + 1) % 4 := by
      rw [Int.fmod_eq_emod_of_nonneg _ (by decide), Int.fdiv_eq_ediv_of_nonneg _ (by lia)]
    rw [hix]
    have hx0 := Int.emod_nonneg ((ns.getD j 0) / ((j : Int) + 1)) (show (4 : Int) ≠ 0 by decide)
    have hx4 := Int.emod_lt_of_pos ((ns.getD j 0) / ((j : Int) + 1)) (show (0 : Int) < 4 by decide)
    have hlab : ∃ u, u = labOf ns j ∧ u = (97 + j) :: tailsL.getD (ns.getD j 0 / ((j : Int) + 1) % 4).toNat [] := ⟨_, rfl, rfl⟩
    obtain ⟨u, hu, hu'⟩ := hlab
    generalize (ns.getD j 0) / ((j : Int) + 1) % 4 = ix at *
    obtain ⟨tl, htl⟩ : ∃ tl, tailsL[ix.toNat]? = some tl := ⟨_, List.getElem?_eq_getElem (by show ix.toNat < 4; lia)⟩
    obtain ⟨xv, hxv, ⟨tx, rfl⟩⟩ := htv.get htl
    rw [List.getD_eq_getElem?_getD, htl] at hu'
    refine item_listL ⟨_, (N7 _ mm4).1, rfl, _, rfl⟩ hx0 (by lia) hxv ?_
    have hlet : Txt.item (Str.ofString "abcdef") (j : Int) = mkS [97 + j] := by
      have : j = 0 ∨ j = 1 ∨ j = 2 ∨ j = 3 ∨ j = 4 ∨ j = 5 := by lia
      rcases this with rfl | rfl | rfl | rfl | rfl | rfl <;> decide
    rw [hlet]
    have hul : u.length ≤ 3 := by rw [hu]; exact labOf_len ns j
    have htl2 : tl.length ≤ 2 := by rw [hu'] at hul; simpa using hul
    refine add_str (fun t8 tk8 => ?_) (by rw [mkS_len, mkS_len, sizeLine_eq]; simp only [List.length_singleton]; lia)
    have happ : mkS [97 + j] ++ mkS tl = mkS u := by rw [mkS_app, hu']; rfl
    rw [happ]
    iterate 1 walk1
    rename Fr _ _ _ _ => F8
    rename News _ _ _ _ => N8
    have hll : lv.length = j := by rw [hlv.length, labsL_len]
    have ne2 : hA ≠ lA ∧ dA ≠ lA ∧ pA ≠ lA ∧ tA ≠ lA ∧ nA ≠ lA ∧ L + 1 + 1 + 1 ≠ lA ∧ L + 1 + 1 ≠ lA ∧ L + 1 ≠ lA ∧ 80 ≠ lA ∧ 73 ≠ lA := ⟨Nat.ne_of_gt (by lia), Nat.ne_of_lt (by lia), Nat.ne_of_lt (by lia), Nat.ne_of_lt (by lia), Nat.ne_of_lt (by lia), Nat.ne_of_lt (by lia), Nat.ne_of_lt (by lia), Nat.ne_of_lt (by lia), Nat.ne_of_lt (by lia), Nat.ne_of_lt (by lia)⟩
    obtain ⟨x1, x2, x3, x4, x5, x6, x7, x8, x9, x10⟩ := ne2
    refine append_K F8 N8 (.tail x1 (.head (fa_cons x2 (fa_cons x3 (fa_cons x4 (fa_cons x5 (fa_cons x6 (fa_cons x7 (fa_cons x8 (fa_cons x9 (fa_cons x10 fun p hp => hOff p hp _ (by simp)))))))))))) (fun h9 F9 N9 => ?_) (by rw [List.size_toArray, sizeLine_eq]; lia)
    rw [List.push_toArray] at N9
    clear F8 N8 x1 x2 x3 x4 x5 x6 x7 x8 x9 x10
    have hlv' : F2 strV (lv ++ [.str (mkS u) t8]) (labsL ns (j + 1)) := by
      rw [labsL_succ, ← hu]
      exact hlv.append (.cons ⟨_, rfl⟩ .nil)
    have hpv' : ∀ t, IntsAre (pv ++ [.int q t]) (parsL ns (j + 1)) := fun _ => by
      rw [parsL_succ, ← hq]
      exact ints_app (hpvQ trivial) (.cons _ _ .nil)
    have hlt9 := news_lt N9
    iterate 7 walk1
    by_cases hq0 : q < 0
    · refine ite_pos (by simp; lia) ?_
      iterate 10 walk1
      refine newList_N (vs := []) (by simp) F9 N9 (fun h10 F10 N10 => ?_)
      dsimp only at F10 N10 ⊢
      generalize h9.objs.size = nw at *
      clear F9 N9
      have l1 : @LT.lt Nat _ hA nw := hlt9 _ mm0
      iterate 1 walk1
      have hdl : dv.length = j := by rw [hdv.length, holdsL_len]
      have ne3 : nw ≠ dA ∧ hA ≠ dA ∧ lA ≠ dA ∧ pA ≠ dA ∧ tA ≠ dA ∧ nA ≠ dA ∧ L + 1 + 1 + 1 ≠ dA ∧ L + 1 + 1 ≠ dA ∧ L + 1 ≠ dA ∧ 80 ≠ dA ∧ 73 ≠ dA := ⟨Nat.ne_of_gt (by lia), Nat.ne_of_gt (by lia), Nat.ne_of_gt (by lia), Nat.ne_of_lt (by lia), Nat.ne_of_lt (by lia), Nat.ne_of_lt (by lia), Nat.ne_of_lt (by lia), Nat.ne_of_lt (by lia), Nat.ne_of_lt (by lia), Nat.ne_of_lt (by lia), Nat.ne_of_lt (by lia)⟩
      obtain ⟨x0, x1, x2, x3, x4, x5, x6, x7, x8, x9, x10⟩ := ne3
      refine append_K F10 N10 (.tail x0 (.tail x1 (.tail x2 (.head (fa_cons x3 (fa_cons x4 (fa_cons x5 (fa_cons x6 (fa_cons x7 (fa_cons x8 (fa_cons x9 (fa_cons x10 fun p hp => hOff p hp _ (by simp)))))))))))) ) (fun h11 F11 N11 => ?_) (by rw [List.size_toArray, sizeLine_eq]; lia)
      rw [List.push_toArray] at N11
      clear F10 N10 x0 x1 x2 x3 x4 x5 x6 x7 x8 x9 x10
      iterate 12 walk1
      have hlab1 : (lv ++ [Value.str (mkS u) t8])[((j : Int)).toNat]? = some (.str (mkS u) t8) := by
        rw [Int.toNat_natCast, ← hll, List.getElem?_concat_length]
      rename Fr _ _ _ _ => F12
      rename News _ _ _ _ => N12
      refine item_listL ⟨_, (N12 _ mm2).1, rfl, _, rfl⟩ hj0 (by lia) hlab1 ?_
      iterate 1 walk1
      refine add_str (fun t9 tk9 => ?_) (by rw [mkS_len, show (Str.ofString ".local").length = 6 from rfl, sizeLine_eq]; lia)
      have happ2 : mkS u ++ Str.ofString ".local" = mkS (u ++ dotLocal) := by rw [show Str.ofString ".local" = mkS dotLocal by decide, mkS_app]
      rw [happ2]
      iterate 1 walk1
      rename Fr _ _ _ _ => F13
      rename News _ _ _ _ => N13
      have hhl : hv.length = j := by rw [hhv.length, hostsL_len]
      have ne4 : nw ≠ hA ∧ lA ≠ hA ∧ dA ≠ hA ∧ pA ≠ hA ∧ tA ≠ hA ∧ nA ≠ hA ∧ L + 1 + 1 + 1 ≠ hA ∧ L + 1 + 1 ≠ hA ∧ L + 1 ≠ hA ∧ 80 ≠ hA ∧ 73 ≠ hA := ⟨Nat.ne_of_gt (by lia), Nat.ne_of_lt (by lia), Nat.ne_of_lt (by lia), Nat.ne_of_lt (by lia), Nat.ne_of_lt (by lia), Nat.ne_of_lt (by lia), Nat.ne_of_lt (by lia), Nat.ne_of_lt (by lia), Nat.ne_of_lt (by lia), Nat.ne_of_lt (by lia), Nat.ne_of_lt (by lia)⟩
      obtain ⟨x0, x1, x2, x3, x4, x5, x6, x7, x8, x9, x10⟩ := ne4
      refine append_K F13 N13 (.tail x0 (.head (fa_cons x1 (fa_cons x2 (fa_cons x3 (fa_cons x4 (fa_cons x5 (fa_cons x6 (fa_cons x7 (fa_cons x8 (fa_cons x9 (fa_cons x10 fun p hp => hOff p hp _ (by simp))))))))))))) (fun h14 F14 N14 => ?_) (by rw [List.size_toArray, sizeLine_eq]; lia)
      rw [List.push_toArray] at N14
      clear F13 N13 x0 x1 x2 x3 x4 x5 x6 x7 x8 x9 x10
      iterate 3 walk1
      rename Fr _ _ _ _ => F15
      rename News _ _ _ _ => N15
      rw [hrest] at N15
      refine hQt1 _ ?_
      refine LoopEnd.intro F15 N15 (in_turn1 [_, _, _, _, _, _, _, _, _, _, _]).2 ?_
      refine ⟨fun y h1 h2 => ?agr1, pv ++ [.int q (tkB + 1 + 1 + 1 + 1)], cp + 1, lv ++ [.str (mkS u) t8], cl + 1, hv ++ [.str (mkS (u ++ dotLocal)) t9], ch + 1, dv ++ [.ref nw], cdd + 1, (nw, PySem.W.listOf (List.toArray ([] : List Value)) 0) :: imm, ?sub1, fa_cons ⟨⟨_, _, rfl⟩, l1⟩ him, ?par1, hlv', ?hh1, ?hd1⟩
      case sub1 => exact (in_turn1 [_, _, _, _, _, _, _, _, _, _, _]).1
      case par1 => exact hpv' _
      case agr1 =>
        dsimp only
        rw [if_neg h2, if_neg h1, if_neg h1, if_neg h2, hm3]
        rfl
      case hh1 =>
        show F2 strV _ (hostsL _ _ j ++ [host1 _ _ _])
        rw [labsL_get hj, parsL_get hj, ← hu, ← hq, host1, if_pos hq0]
        exact hhv.append (.cons ⟨_, rfl⟩ .nil)
      case hd1 =>
        show F2 (IL _) _ (holdsL _ j ++ [hold1 _ _])
        rw [parsL_get hj, ← hq, hold1, if_pos hq0]
        exact (hdv.mono fun _ _ x => x.mono fun p hp => .tail _ hp).append (.cons ⟨_, [], 0, rfl, .head _, .nil⟩ .nil)
    · refine ite_neg (by simp; lia) ?_
      iterate 12 walk1
      obtain ⟨hq2, hhq⟩ : ∃ hs, (holdsL (parsL ns M) j)[q.toNat]? = some hs := ⟨_, List.getElem?_eq_getElem (by rw [holdsL_len]; lia)⟩
      obtain ⟨dvx, hdx, da, dus, dc, rfl, hdm, hdus⟩ := hdv.get hhq
      have hdu6 : dus.length ≤ 6 := by rw [hdus.length]; have := holdsL_short j hq2 (List.mem_of_getElem? hhq); lia
      rename Fr _ _ _ _ => F10
      rename News _ _ _ _ => N10
      refine item_listL ⟨_, (N10 _ mm2).1, rfl, _, rfl⟩ (by lia) (by lia) hdx ?_
      iterate 4 walk1
      refine newList_N (by simp) F10 N10 (fun h11 F11 N11 => ?_)
      dsimp only at F11 N11 ⊢
      generalize h9.objs.size = nw at *
      clear F10 N10
      have l1 : @LT.lt Nat _ hA nw := hlt9 _ mm0
      have hlt11 := news_lt N11
      have hdmr : (da, PySem.W.listOf dus.toArray dc) ∈ rest := by rw [hrest]; exact List.mem_append_left _ hdm
      refine add_lists (vs := dus) (ws := [.int q _]) F11 N11 ⟨_, (N11 _ (List.mem_append_right [_, _, _, _, _, _, _, _, _, _, _, _] hdmr)).1, rfl, _, rfl⟩ ⟨_, (N11 _ mm0).1, rfl, _, rfl⟩ (fun h12 F12 N12 => ?_) (by rw [sizeLine_eq, List.length_singleton]; lia)
      dsimp only at F12 N12 ⊢
      generalize h11.objs.size = nx at *
      clear F11 N11
      have l2 : @LT.lt Nat _ hA nx := hlt11 _ mm1
      have l3 : @LT.lt Nat _ nw nx := hlt11 _ mm0
      iterate 1 walk1
      have hdl : dv.length = j := by rw [hdv.length, holdsL_len]
      have ne3 : nx ≠ dA ∧ nw ≠ dA ∧ hA ≠ dA ∧ lA ≠ dA ∧ pA ≠ dA ∧ tA ≠ dA ∧ nA ≠ dA ∧ L + 1 + 1 + 1 ≠ dA ∧ L + 1 + 1 ≠ dA ∧ L + 1 ≠ dA ∧ 80 ≠ dA ∧ 73 ≠ dA := ⟨Nat.ne_of_gt (by lia), Nat.ne_of_gt (by lia), Nat.ne_of_gt (by lia), Nat.ne_of_gt (by lia), Nat.ne_of_lt (by lia), Nat.ne_of_lt (by lia), Nat.ne_of_lt (by lia), Nat.ne_of_lt (by lia), Nat.ne_of_lt (by lia), Nat.ne_of_lt (by lia), Nat.ne_of_lt (by lia), Nat.ne_of_lt (by lia)⟩
      obtain ⟨x00, x0, x1, x2, x3, x4, x5, x6, x7, x8, x9, x10⟩ := ne3
      refine append_K F12 N12 (.tail x00 (.tail x0 (.tail x1 (.tail x2 (.head (fa_cons x3 (fa_cons x4 (fa_cons x5 (fa_cons x6 (fa_cons x7 (fa_cons x8 (fa_cons x9 (fa_cons x10 fun p hp => hOff p hp _ (by simp)))))))))))))) (fun h13 F13 N13 => ?_) (by rw [List.size_toArray, sizeLine_eq]; lia)
      rw [List.push_toArray] at N13
      clear F12 N12 x00 x0 x1 x2 x3 x4 x5 x6 x7 x8 x9 x10
      iterate 13 walk1
      have hlab1 : (lv ++ [Value.str (mkS u) t8])[((j : Int)).toNat]? = some (.str (mkS u) t8) := by
        rw [Int.toNat_natCast, ← hll, List.getElem?_concat_length]
      rename Fr _ _ _ _ => F14
      rename News _ _ _ _ => N14
      refine item_listL ⟨_, (N14 _ mm3).1, rfl, _, rfl⟩ hj0 (by lia) hlab1 ?_
      iterate 1 walk1
      refine add_str (fun t9 tk9 => ?_) (by rw [mkS_len, show (Str.ofString ".").length = 1 from rfl, sizeLine_eq]; lia)
      iterate 3 walk1
      obtain ⟨ho, hho⟩ : ∃ hs, (hostsL (labsL ns M) (parsL ns M) j)[q.toNat]? = some hs := ⟨_, List.getElem?_eq_getElem (by rw [hostsL_len]; lia)⟩
      have hhos := hostsL_short (labsL_short ns M) j ho (List.mem_of_getElem? hho)
      obtain ⟨hvx, hhx, ⟨th, rfl⟩⟩ := hhv.get hho
      rename Fr _ _ _ _ => F15
      rename News _ _ _ _ => N15
      refine item_listL ⟨_, (N15 _ mm2).1, rfl, _, rfl⟩ (by lia) (by lia) hhx ?_
      have happ2 : mkS u ++ Str.ofString "." = mkS (u ++ [46]) := by rw [show Str.ofString "." = mkS [46] by decide, mkS_app]
      rw [happ2]
      refine add_str (fun t10 tk10 => ?_) (by rw [mkS_len, mkS_len, List.length_append, List.length_singleton, sizeLine_eq]; lia)
      have happ3 : mkS (u ++ [46]) ++ mkS ho = mkS (u ++ 46 :: ho) := by rw [mkS_app, List.append_assoc]; rfl
      rw [happ3]
      iterate 1 walk1
      rename Fr _ _ _ _ => F16
      rename News _ _ _ _ => N16
      have hhl : hv.length = j := by rw [hhv.length, hostsL_len]
      have ne4 : nx ≠ hA ∧ nw ≠ hA ∧ lA ≠ hA ∧ dA ≠ hA ∧ pA ≠ hA ∧ tA ≠ hA ∧ nA ≠ hA ∧ L + 1 + 1 + 1 ≠ hA ∧ L + 1 + 1 ≠ hA ∧ L + 1 ≠ hA ∧ 80 ≠ hA ∧ 73 ≠ hA := ⟨Nat.ne_of_gt (by lia), Nat.ne_of_gt (by lia), Nat.ne_of_lt (by lia), Nat.ne_of_lt (by lia), Nat.ne_of_lt (by lia), Nat.ne_of_lt (by lia), Nat.ne_of_lt (by lia), Nat.ne_of_lt (by lia), Nat.ne_of_lt (by lia), Nat.ne_of_lt (by lia), Nat.ne_of_lt (by lia), Nat.ne_of_lt (by lia)⟩
      obtain ⟨x00, x0, x1, x2, x3, x4, x5, x6, x7, x8, x9, x10⟩ := ne4
      refine append_K F16 N16 (.tail x00 (.tail x0 (.head (fa_cons x1 (fa_cons x2 (fa_cons x3 (fa_cons x4 (fa_cons x5 (fa_cons x6 (fa_cons x7 (fa_cons x8 (fa_cons x9 (fa_cons x10 fun p hp => hOff p hp _ (by simp)))))))))))))) (fun h17 F17 N17 => ?_) (by rw [List.size_toArray, sizeLine_eq]; lia)
      rw [List.push_toArray] at N17
      clear F16 N16 x00 x0 x1 x2 x3 x4 x5 x6 x7 x8 x9 x10
      iterate 3 walk1
      rename Fr _ _ _ _ => F18
      rename News _ _ _ _ => N18
      rw [hrest] at N18
      refine hQt1 _ ?_
      refine LoopEnd.intro F18 N18 (in_turn2 [_, _, _, _, _, _, _, _, _, _, _]).2 ?_
      refine ⟨fun y h1 h2 => ?agr2, pv ++ [.int q (tkB + 1 + 1 + 1 + 1)], cp + 1, lv ++ [.str (mkS u) t8], cl + 1, hv ++ [.str (mkS (u ++ 46 :: ho)) t10], ch + 1, dv ++ [.ref nx], cdd + 1, (nx, PySem.W.listOf (List.toArray (dus ++ [.int q (tkB + 1 + 1 + 1 + 1)])) 0) :: (nw, PySem.W.listOf (List.toArray [.int q (tkB + 1 + 1 + 1 + 1)]) 0) :: imm, ?sub2, fa_cons ⟨⟨_, _, rfl⟩, l2⟩ (fa_cons ⟨⟨_, _, rfl⟩, l1⟩ him), ?par2, hlv', ?hh2, ?hd2⟩
      case sub2 => exact (in_turn2 [_, _, _, _, _, _, _, _, _, _, _]).1
      case par2 => exact hpv' _
      case agr2 =>
        dsimp only
        rw [if_neg h2, if_neg h1, if_neg h1, if_neg h2, hm3]
        rfl
      case hh2 =>
        show F2 strV _ (hostsL _ _ j ++ [host1 _ _ _])
        rw [labsL_get hj, parsL_get hj, ← hu, ← hq, host1, if_neg hq0, List.getD_eq_getElem?_getD, hho]
        exact hhv.append (.cons ⟨_, rfl⟩ .nil)
      case hd2 =>
        show F2 (IL _) _ (holdsL _ j ++ [hold1 _ _])
        rw [parsL_get hj, ← hq, hold1, if_neg hq0, List.getD_eq_getElem?_getD, hhq]
        exact (hdv.mono fun _ _ x => x.mono fun p hp => .tail _ (.tail _ hp)).append (.cons ⟨_, _, 0, rfl, .head _, ints_app hdus (.cons _ _ .nil)⟩ .nil)
end Mine
end
section
theorem Mine.startCompsR : True := by
  w_top off
  trivial
open PySem PySem.Spec PySem.Calls PyProof.Rows PySem.W
set_option maxRecDepth 100000
namespace Mine
section
variable {prog : Program} {w : World} {A : Around} {E : Value → Shared → Prop} {s : Shared} {h₀ : Heap} {L : Addr} {m : Str → Option Value} {env : Env}
/-- what the walk of reversed(list) gives as a comprehension's source -/
noncomputable def RevSrc (prog : Program) (w : World) (A : Around) (h₀ : Heap) (L : Addr) (m : Str → Option Value) (env : Env) (elt : Expr) (x : Str) (scope : Scope) (cl : List (Str × Addr)) (Q : Value → Shared → Prop) (xv : Value) (s₁ : Shared) : Prop :=
  ∃ I l its news, xv = .ref I ∧ A.handled = none ∧ Fr h₀ L s₁.heap m ∧ News h₀ L s₁.heap news ∧ s₁.heap.IsRevIter I l ((its.size : Int) - 1) ∧ LCg.SrcAt h₀ l its news ∧ (∀ p ∈ news, p.1 ≠ I) ∧ L ≠ I ∧ h₀.get? I = none ∧ its.size ≤ sizeLine ∧
    ∀ g : Heap, LCg.CompRest prog w A h₀ L m env elt x scope cl { s₁ with heap := g } (LCg.SrcAt h₀ l its) (fun i v => i < its.size ∧ its[its.size - 1 - i]? = some v) (LCg.FinE h₀ L m { s₁ with heap := g } Q) its.size 0 [] news

theorem ListComp_R {elt iter : Expr} {x : Str} {px : Pos} {scope : Scope} {cl : List (Str × Addr)} {pos : Pos} {Q : Value → Shared → Prop} (F₀ : Fr h₀ L s.heap m)
    (hclos : closureFor scope env = pure cl) (hcell : ∀ y ∈ scope.names, y.2 ≠ .cell) (hkind : scope.kind = .function)
    (hnames : ∀ y ∈ scope.names, y.2 = .local → scope.names.lookup y.1 = some .local) (hx : scope.names.lookup x = some .local)
    (h : wpAny (model prog w) A (eval iter env) (RevSrc prog w A h₀ L m env elt x scope cl Q) E s)
    (hs : ∀ x, foldedSetIterable iter env x = pure x := by intro _; rfl) :
    wpAny (model prog w) A (eval (.ListComp elt [⟨.Name x px, iter, [], 0⟩] scope pos) env) Q E s := by
  rw [eval_ListComp]
  refine wpAny_comprehension_free (use := none) rfl hs hclos hkind hnames (wpAny_mono h (fun xv s₁ h₁ => ?_) fun _ _ e => e)
  obtain ⟨I, l, its, news, rfl, hh, F, N, hit, S, off, hLI, hI₀, hsz, R⟩ := h₁
  have hl := S.list F.keep N
  have hne : l ≠ I := by
    rintro rfl
    obtain ⟨o, ho, hc, _⟩ := hl
    obtain ⟨o', ho', hc', _⟩ := hit
    rw [ho] at ho'; cases ho'; rw [hc] at hc'; simp at hc'
  have hll : l < s₁.heap.objs.size := by obtain ⟨_, e, _⟩ := hl; exact Heap.lt_size e
  have hIl : I < s₁.heap.objs.size := by obtain ⟨_, e, _⟩ := hit; exact Heap.lt_size e
  refine wpAny_pyIter_revIter hit ?_
  have W := Walks.listRev (prog := prog) (w := w) hh I l hne its
  have W' : Walks prog w A I [I, l] [I] its.size (fun i v => i < its.size ∧ its[its.size - 1 - i]? = some v) _ := { sub := W.sub, frame := W.frame, done := W.done, self := W.self, item := fun i s' Q' E' hi st hQ => W.item i s' Q' E' hi st fun v h' tk hP => hQ v h' tk ⟨hi, hP⟩ }
  refine LCg.block_U W' hsz ?_ ?_ hcell hkind hx ⟨Nat.zero_le _, by simpa using hit, hl⟩ (fun b hb => ?_) F N hLI hI₀ off S (R s₁.heap) ?_
  · rintro i h' ⟨_, ⟨o, e, _⟩, _⟩
    exact ⟨o, e⟩
  · rintro i h1 h2 o nw ⟨hi, ⟨o', q, r⟩, _⟩ e e' k N' S'
    rw [e] at q
    cases q
    exact ⟨hi, ⟨o, e', r⟩, S'.list k N'⟩
  · rcases List.mem_cons.mp hb with rfl | hb
    · exact hIl
    · rw [List.mem_singleton.mp hb]; exact hll
  · intro D C h' tk m' ys news' F' N' o1 hn hC₀ hD₀ hCL hDL hCD offC fin
    refine ⟨m', hn, fun h'' hs'' => fin D h'' tk (F'.change hs'' hCL hC₀) (fun p hp => ?_) o1⟩
    refine ⟨hs''.extBut _ _ ?_ (N' p hp).1, (N' p hp).2⟩
    rcases List.mem_cons.mp hp with rfl | hp
    · exact Ne.symm hCD
    · exact offC p hp
end
end Mine
end
section
theorem Mine.startStrFacts : True := by
  w_top off
  trivial
open PySem PySem.Spec PySem.Calls PyProof.Rows PySem.W PyProof
set_option maxRecDepth 100000
namespace Mine
theorem pick_upto (l : List Nat) : ∀ n, n ≤ l.length → (List.range n).filterMap (l[·]?) = l.take n
  | 0, _ => rfl
  | n + 1, h => by
    rw [List.range_succ, List.filterMap_append, pick_upto l n (by lia), List.take_add_one]
    have : l[n]? = some l[n] := List.getElem?_eq_getElem (by lia)
    simp [this]
theorem pick_all (l : List Nat) : (List.range l.length).filterMap (l[·]?) = l := by
  rw [pick_upto l _ (Nat.le_refl _), List.take_length]
theorem slice_idx {n len : Nat} (h : n ≤ len) : Builtin.Str.strSliceIndices (some (n : Int)) none 1 len = (List.range (len - n)).map (· + n) := by
  unfold Builtin.Str.strSliceIndices sliceRange
  have e1 : ¬ ((n : Int) < 0) := by lia
  have e2 : max 0 (min (n : Int) (len : Int)) = n := by lia
  simp only [show (1 : Int) > 0 by decide, if_true, e1, if_false, e2]
  by_cases hl : (n : Int) < len
  · rw [if_pos hl]
    have e3 : (((len : Int) - n + 1 - 1) / 1).toNat = len - n := by rw [Int.ediv_one]; lia
    rw [e3]
    refine List.map_congr_left fun k _ => ?_
    lia
  · rw [if_neg hl]
    have e3 : len - n = 0 := by lia
    rw [e3]
    rfl
theorem slice_from {l : List Nat} {n : Nat} (h : n ≤ l.length) : Txt.slice (mkS l) (some (n : Int)) none = mkS (l.drop n) := by
  unfold Txt.slice
  have hlen : (mkS l).length = l.length := mkS_len l
  rw [hlen, slice_idx h]
  have key : ((List.range (l.length - n)).map (· + n)).filterMap ((mkS l).cps[·]?) = l.drop n := by
    rw [List.filterMap_map]
    have e : (fun k => (mkS l).cps[k]?) ∘ (· + n) = fun k => (l.drop n)[k]? := by
      funext k
      show (l.toArray)[k + n]? = _
      rw [List.getElem?_toArray, List.getElem?_drop, Nat.add_comm]
    show List.filterMap ((fun k => (mkS l).cps[k]?) ∘ (· + n)) _ = _
    rw [e, show l.length - n = (l.drop n).length by simp]
    exact pick_all _
  split
  · rename_i hc
    have : n = 0 := by
      simp at hc
      lia
    subst this
    rfl
  · rw [key]
theorem slice_one {a : Nat} {x : List Nat} : Txt.slice (mkS (a :: x)) (some 1) none = mkS x := by
  have := slice_from (l := a :: x) (n := 1) (by simp)
  simpa using this
end Mine
end
section
theorem Mine.startNeStrs : True := by
  w_top off
  trivial
open PySem PySem.Spec PySem.Calls PyProof.Rows PySem.W
set_option maxRecDepth 100000
namespace Mine
theorem ns_lay : ∀ ls : List (List Nat), (∀ o ∈ ls, ∀ c ∈ o, c < 128) → PyData.canLayAll0 (ls.map fun l => PyData.str (mkS l)) = true
  | [], _ => rfl
  | l :: r, h => by
    have h1 : PyData.strOk (mkS l) = true := by
      have := h l (.head _)
      unfold PyData.strOk
      rw [Array.all_eq_true']
      intro x hx
      have := this x (by simpa using hx)
      exact decide_eq_true (by lia)
    simp [PyData.canLayAll0, PyData.canLay0, h1, ns_lay r fun o ho => h o (.tail _ ho)]
theorem ns_depth : ∀ ls : List (List Nat), PyData.depthAll (ls.map fun l => PyData.str (mkS l)) = 0
  | [] => rfl
  | _ :: r => by simp [PyData.depthAll, PyData.depth, ns_depth r]
theorem ns_shaped {ls : List (List Nat)} (h : ∀ o ∈ ls, ∀ c ∈ o, c < 128) : SeqAt.shaped (.list (ls.map fun l => PyData.str (mkS l))) = true := by
  simp [SeqAt.shaped, PyData.canLay0, PyData.depth, ns_lay ls h, ns_depth]
theorem ns_same : ∀ ls : List (List Nat), PySem.Spec.sameAll (ls.map fun l => PyData.str (mkS l)) (ls.map fun l => PyData.str (mkS l)) = true
  | [] => by simp [PySem.Spec.sameAll]
  | l :: r => by simp [PySem.Spec.sameAll, PySem.Spec.same, ns_same r]
theorem ns_carried {vs : List Value} {ls : List (List Nat)} (h : F2 strV vs ls) : CarriedAll vs (ls.map fun l => PyData.str (mkS l)) := by
  induction h with
  | nil => exact .nil
  | cons x _ ih =>
    obtain ⟨t, rfl⟩ := x
    exact .cons (.str _ _) ih
section
variable {prog : Program} {w : World} {A : Around} {E : Value → Shared → Prop} {s : Shared} {a b : Addr} {xs ys : List Value} {ls : List (List Nat)} {Q : Value → Shared → Prop}
theorem ne_strs (ha : s.heap.IsList a xs.toArray) (hb : s.heap.IsList b ys.toArray) (hi : F2 strV xs ls) (hj : F2 strV ys ls) (ok : ∀ o ∈ ls, ∀ c ∈ o, c < 128) (hu : A.units + 64 < cLine) (h : Q (.bool false) s) :
    wpAny (model prog w) A (compareOp .NotEq (.ref a) (.ref b)) Q E s :=
  ne_dataH_same (reads_newData ha (ns_carried hi)) (reads_newData hb (ns_carried hj)) (ns_shaped ok) (ns_shaped ok) hu (SeqAt.noMix_of_shape (.list .str) rfl _ _ (list_map_has fun _ => rfl) (list_map_has fun _ => rfl)) (by simp only [PySem.Spec.same]; rw [ns_same]; exact h)
end
end Mine
end
section
theorem Mine.startSegC : True := by
  w_top off
  trivial
open PySem PySem.Spec PySem.Calls PyProof.Rows PySem.W
set_option maxRecDepth 100000
set_option maxHeartbeats 8000000
namespace Mine
/-- what reach needs of a name, and gives -/
noncomputable def reachL (x d : List Nat) : Prop := HostLike (mkS x) ∧ ∃ (i : Int) (b : List Nat), d = 46 :: b ∧ Txt.find (mkS x) (Str.ofString ".") = i ∧ 0 ≤ i ∧ i < 1000 ∧ Txt.slice (mkS x) (some (i + 1)) none = mkS b ∧ (Txt.find (mkS b) (Str.ofString ".") ≥ 0 ∨ mkS b = Str.ofString "local") ∧ b.length ≤ 900
noncomputable def rungsOf (O : List (List Nat)) (h : List Int) : List (List Nat) := h.reverse.map fun k => 46 :: O.getD k.toNat []
noncomputable def matchL (x y : List Nat) (r : Bool) : Prop := HostLike (Txt.lower (mkS x)) ∧ HostLike (Txt.slice (Txt.lower (mkS y)) (some 1) none) ∧ (Txt.lower (mkS x) == Txt.lower (mkS y)) = false ∧ Txt.startswith (Txt.lower (mkS y)) (Str.ofString ".") = true ∧ x.length ≤ 900 ∧ y.length ≤ 900 ∧ (Txt.lower (mkS y)).length ≤ 1000 ∧
  (!(Txt.rfind (Txt.lower (mkS x)) (Txt.lower (mkS y)) == -1 || Txt.rfind (Txt.lower (mkS x)) (Txt.lower (mkS y)) == 0)) = r
/-- the plain facts that the checks need -/
structure Checks (M : Nat) (H : List (List Int)) (O : List (List Nat)) : Prop where
  lenH : H.length = M
  lenO : O.length = M
  bnd : ∀ h ∈ H, ∀ k ∈ h, 0 ≤ k ∧ k < (M : Int)
  short : ∀ h ∈ H, h.length ≤ 6
  oshort : ∀ o ∈ O, o.length ≤ 100
  ook : ∀ o ∈ O, ∀ c ∈ o, c < 128
  first : ∀ j, j < M → ∀ d, (rungsOf O (H.getD j []) ++ [dotLocal])[0]? = some d → reachL (O.getD j []) d
  next : ∀ j, j < M → ∀ i x d, (rungsOf O (H.getD j []))[i]? = some (46 :: x) → (rungsOf O (H.getD j []) ++ [dotLocal])[i + 1]? = some d → reachL x d
  nloc : ∀ j, j < M → ∀ r ∈ rungsOf O (H.getD j []), r ≠ dotLocal
  dm : ∀ a b, a < M → b < M → a ≠ b → matchL (O.getD a []) (46 :: O.getD b []) ((H.getD a []).contains (b : Int))

theorem segC : ∀ {w : World} {L fa : Addr} {cd : Value} {R : Flow → Shared → Prop} {E : Value → Shared → Prop} {s : Shared} {h₀ : Heap} {p : Program} {loose : List Str} {mean : ExcName → Option Value} {mg mb : Str → Option Value} {m : Str → Option Value}
    {M : Nat} {tM tT : Tok} {tot : Int} {pA lA hA dA : Addr} {oR oH oD : Obj} {t80 t73 : Obj} {pv lv hv dv : List Value} {cp cl ch cdd : Nat} {imm : List (Addr × Obj)} {O : List (List Nat)} {H : List (List Int)},
    ∀ (X : (Mine.hd.heap_39 w.params).In h₀) (T : Top p loose mean mg mb h₀)
    (F : Fr h₀ L s.heap m) (hm : Has m [(Str.ofString "many", .int M tM), (Str.ofString "total", .int tot tT), (Str.ofString "parents", .ref pA), (Str.ofString "labels", .ref lA)])
    (N : News h₀ L s.heap ((hA, PySem.W.listOf (List.toArray hv) ch) :: (lA, PySem.W.listOf (List.toArray lv) cl) :: (dA, PySem.W.listOf (List.toArray dv) cdd) :: (pA, PySem.W.listOf (List.toArray pv) cp) :: (L + 1 + 1 + 1, oR) :: (L + 1 + 1, oH) :: (L + 1, oD) :: (80, t80) :: (73, t73) :: imm))
    (dR : oR.data = .cell none) (dH : oH.data = .cell (some (.ref hA))) (dD : oD.data = .cell (some (.ref dA)))
    (him : ∀ p ∈ imm, isLst p.2 ∧ @LT.lt Nat _ hA p.1) (n80 : notIt t80 = true) (n73 : notIt t73 = true)
    (hM : M ≤ 6) (hhv : F2 strV hv O) (hdv : F2 (IL imm) dv H) (K : Checks M H O)
    (k : ∀ h tk m, Fr h₀ L h m → Has m [(Str.ofString "many", .int M tM), (Str.ofString "total", .int tot tT), (Str.ofString "parents", .ref pA), (Str.ofString "labels", .ref lA)] →
      News h₀ L h ((hA, PySem.W.listOf (List.toArray hv) ch) :: (lA, PySem.W.listOf (List.toArray lv) cl) :: (dA, PySem.W.listOf (List.toArray dv) cdd) :: (pA, PySem.W.listOf (List.toArray pv) cp) :: (L + 1 + 1 + 1, oR) :: (L + 1 + 1, oH) :: (L + 1, oD) :: (80, t80) :: (73, t73) :: imm) →
      wpAny (model PySem.Challenge.rw_xe0036_01.row.prog w) (lawA L fa cd) (execs (lawDef.1.drop 11) (lawE L fa cd)) R E { s with heap := h, toks := tk }),
    wpAny (model PySem.Challenge.rw_xe0036_01.row.prog w) (lawA L fa cd) (execs (lawDef.1.drop 10) (lawE L fa cd)) R E s := by
  k_fill
  intro w L fa cd R E s h₀ p loose mean mg mb m M tM tT tot pA lA hA dA oR oH oD t80 t73 pv lv hv dv cp cl ch cdd imm O H X T F hm N dR dH dD him n80 n73 hM hhv hdv K k
  conv at k in (List.drop _ _) => whnf
  conv in (List.drop _ _) => whnf
  unfold lawA lawE at k ⊢
  conv at k in lawDef.2 => whnf
  conv at k in lawDef.2 => whnf
  conv in lawDef.2 => whnf
  conv in lawDef.2 => whnf
  have hm0 := hm.nf
  rw [hm0] at F
  dsimp only [chain] at F
  refine wpAny_execs_cons ?_
  refine wpAny_For ?_
  iterate 7 walk1
  rename IsRange _ _ _ _ _ _ _ _ => Rg
  rename Fr _ _ _ _ => F3
  rename News _ _ _ _ => N3
  obtain ⟨m3, hm3⟩ : ∃ m3, m3 = mOf F3 := ⟨_, rfl⟩
  have ⟨hrs, hrm⟩ := up_size (a := 0) (n := M) (b := (M : Int)) (by lia) (by lia) (by lia) (by lia) (by lia)
  have hlt3 := news_lt N3
  obtain ⟨LED, hLED⟩ : ∃ LED, LED = ((hA, PySem.W.listOf (List.toArray hv) ch) :: (lA, PySem.W.listOf (List.toArray lv) cl) :: (dA, PySem.W.listOf (List.toArray dv) cdd) :: (pA, PySem.W.listOf (List.toArray pv) cp) :: (L + 1 + 1 + 1, oR) :: (L + 1 + 1, oH) :: (L + 1, oD) :: (80, t80) :: (73, t73) :: imm) := ⟨_, rfl⟩
  have hLn : ∀ p ∈ LED, notIt p.2 = true := by
    rw [hLED]
    exact fa_cons (P := fun p : Addr × Obj => notIt p.2 = true) rfl (fa_cons rfl (fa_cons rfl (fa_cons rfl (fa_cons (notIt_cell dR) (fa_cons (notIt_cell dH) (fa_cons (notIt_cell dD) (fa_cons n80 (fa_cons n73 fun p hp => (him p hp).1.notIt))))))))
  rw [← hLED] at N3
  refine iterRange_J rfl Rg hrm hrs F3 N3 (fun j m' nw => (∀ y, y ≠ Str.ofString "one" → y ≠ Str.ofString "rungs" → y ≠ Str.ofString "domain" → y ≠ Str.ofString "other" → m' y = m3 y) ∧ ∀ p ∈ LED, p ∈ nw) ?mono ?start ?turn ?done
  case mono =>
    rintro j m' nw nw' ⟨e, hin⟩ hk
    exact ⟨e, fun p hp => hk p (hin p hp) (.inl (hLn p hp))⟩
  case start =>
    exact ⟨fun y _ _ _ _ => by rw [hm3]; rfl, fun p hp => hp⟩
  case done =>
    rintro m₁ news₁ h tk ⟨hag, hin⟩ F N
    obtain ⟨a1, a2, a3, a4, rfl⟩ := ag4 hag
    rw [hm3] at F
    dsimp only [mOf] at F
    rw [hLED] at hin
    exact k h tk _ F (has_cons rfl (has_cons rfl (has_cons rfl (has_cons rfl has_nil)))) (fun p hp => N p (hin p hp))
  case turn =>
    rintro j tv' m₁ news₁ h tkA own E₁ hj ⟨hag, hin⟩ ho F N
    refine turn_gen fun Qt1 hQt1 => ?_
    obtain ⟨a1, a2, a3, a4, rfl⟩ := ag4 hag
    rw [hm3] at F
    dsimp only [mOf] at F
    obtain ⟨rest, hrest⟩ : ∃ rest, rest = imm ++ own := ⟨_, rfl⟩
    have N' : News h₀ L h ((hA, PySem.W.listOf (List.toArray hv) ch) :: (lA, PySem.W.listOf (List.toArray lv) cl) :: (dA, PySem.W.listOf (List.toArray dv) cdd) :: (pA, PySem.W.listOf (List.toArray pv) cp) :: (L + 1 + 1 + 1, oR) :: (L + 1 + 1, oH) :: (L + 1, oD) :: (80, t80) :: (73, t73) :: rest) := by
      rw [hrest]
      rw [hLED] at hin
      exact news_re [_, _, _, _, _, _, _, _, _] hin N
    have e1 : (0 : Int) + (j : Int) * 1 = (j : Int) := by lia
    rw [e1]
    clear N
    have hj6 : j < 6 := by lia
    have hj0 : 0 ≤ (j : Int) := by lia
    iterate 6 walk1
    rename Fr _ _ _ _ => F4
    rename News _ _ _ _ => N4
    rename Heap => h4
    have hlt4 := news_lt N4
    refine newList_N (vs := []) (by simp) F4 N4 (fun h5 F5 N5 => ?_)
    dsimp only at F5 N5 hlt4 ⊢
    generalize h4.objs.size = rA at *
    clear F4 N4
    have l1 : @LT.lt Nat _ hA rA := hlt4 _ mm0
    have hlr : ∀ q ∈ rest, @LT.lt Nat _ q.1 rA := fun q hq => hlt4 q (List.mem_append_right [_, _, _, _, _, _, _, _, _] hq)
    have hlX : @LT.lt Nat _ hA rA ∧ @LT.lt Nat _ lA rA ∧ @LT.lt Nat _ dA rA ∧ @LT.lt Nat _ pA rA ∧ @LT.lt Nat _ (L + 1 + 1 + 1) rA ∧ @LT.lt Nat _ (L + 1 + 1) rA ∧ @LT.lt Nat _ (L + 1) rA ∧ @LT.lt Nat _ 80 rA ∧ @LT.lt Nat _ 73 rA := ⟨hlt4 _ mm0, hlt4 _ mm1, hlt4 _ mm2, hlt4 _ mm3, hlt4 _ mm4, hlt4 _ mm5, hlt4 _ mm6, hlt4 _ mm7, hlt4 _ mm8⟩
    have hltR : ∀ q ∈ (hA, PySem.W.listOf (List.toArray hv) ch) :: (lA, PySem.W.listOf (List.toArray lv) cl) :: (dA, PySem.W.listOf (List.toArray dv) cdd) :: (pA, PySem.W.listOf (List.toArray pv) cp) :: (L + 1 + 1 + 1, oR) :: (L + 1 + 1, oH) :: (L + 1, oD) :: (80, t80) :: (73, t73) :: rest, @LT.lt Nat _ q.1 rA := by
      obtain ⟨y1, y2, y3, y4, y5, y6, y7, y8, y9⟩ := hlX
      exact fa_cons (P := fun q : Addr × Obj => @LT.lt Nat _ q.1 rA) y1 (fa_cons y2 (fa_cons y3 (fa_cons y4 (fa_cons y5 (fa_cons y6 (fa_cons y7 (fa_cons y8 (fa_cons y9 fun q hq => hlr q hq))))))))
    have hneR : ∀ q ∈ (hA, PySem.W.listOf (List.toArray hv) ch) :: (lA, PySem.W.listOf (List.toArray lv) cl) :: (dA, PySem.W.listOf (List.toArray dv) cdd) :: (pA, PySem.W.listOf (List.toArray pv) cp) :: (L + 1 + 1 + 1, oR) :: (L + 1 + 1, oH) :: (L + 1, oD) :: (80, t80) :: (73, t73) :: rest, q.1 ≠ rA := fun q hq => Nat.ne_of_lt (hltR q hq)
    iterate 11 walk1
    rename Fr _ _ _ _ => F6
    rename News _ _ _ _ => N6
    have hjO : j < O.length := by rw [K.lenO]; exact hj
    obtain ⟨xo, hxo⟩ : ∃ xo, O[j]? = some xo := ⟨_, List.getElem?_eq_getElem hjO⟩
    have hxoD : O.getD j [] = xo := by rw [List.getD_eq_getElem?_getD, hxo]; rfl
    obtain ⟨xv, hxv, ⟨tx, rfl⟩⟩ := hhv.get hxo
    refine item_listL ⟨_, (N6 _ mm1).1, rfl, _, rfl⟩ hj0 (by lia) (by rw [Int.toNat_natCast]; exact hxv) ?_
    obtain ⟨RU, hRU⟩ : ∃ RU, RU = rungsOf O (H.getD j []) := ⟨_, rfl⟩
    have hRl : RU.length ≤ 6 := by
      rw [hRU, rungsOf, List.length_map, List.length_reverse, List.getD_eq_getElem?_getD]
      cases e : H[j]? with
      | none => simp
      | some x => exact K.short x (List.mem_of_getElem? e)
    have kf := K.first j hj
    have kn := K.next j hj
    have kl := K.nloc j hj
    rw [← hRU] at kf kn kl
    rw [hxoD] at kf
    have hTR : TopRead p loose mg mb h₀ := topRead_of T
    obtain ⟨d0, hd0⟩ : ∃ d0, (RU ++ [dotLocal])[0]? = some d0 := ⟨_, List.getElem?_eq_getElem (by simp)⟩
    obtain ⟨rH, ri, rb, rfl, rfi, ri0, ri1, rsl, ror, rbl⟩ := kf d0 hd0
    iterate 1 walk1
    refine ⟨X.keeps F6.keep, ?_⟩
    refine reach_spec (p := p) (loose := loose) (mg := mg) (mb := mb) ?c1 ?c2 rH rfi ri0 ri1 rsl ror ?c3 ?c4 ?c5 fun h7 tk7 t7 hs7 => ?_
    case c1 => exact X.keeps F6.keep
    case c2 => exact hTR.keeps F6.keep
    case c3 => rw [mkS_len]; lia
    case c4 => decide
    case c5 => decide
    have F7 := F6.keeps hs7
    have N7 := N6.grown hs7
    clear F6 N6
    have hdot : Str.ofString "." ++ mkS rb = mkS (46 :: rb) := by rw [show Str.ofString "." = mkS [46] by decide, mkS_app]; rfl
    rw [hdot]
    dsimp only
    obtain ⟨m7, hm7⟩ : ∃ m7, m7 = mOf F7 := ⟨_, rfl⟩
    iterate 3 walk1
    rename Fr _ _ _ _ => F8
    rename News _ _ _ _ => N8
    refine wpAny_mono (E := fun _ _ => False) (Q := fun f s' => f = .next ∧ ∃ h' tk m' rl c t, s' = { s with heap := h', toks := tk } ∧ Fr h₀ L h' m' ∧ m' = (fun y => if y = Str.ofString "domain" then some (Value.str (mkS dotLocal) t) else m7 y) ∧ News h₀ L h' ((rA, PySem.W.listOf (List.toArray rl) c) :: (hA, PySem.W.listOf (List.toArray hv) ch) :: (lA, PySem.W.listOf (List.toArray lv) cl) :: (dA, PySem.W.listOf (List.toArray dv) cdd) :: (pA, PySem.W.listOf (List.toArray pv) cp) :: (L + 1 + 1 + 1, oR) :: (L + 1 + 1, oH) :: (L + 1, oD) :: (80, t80) :: (73, t73) :: rest) ∧ F2 strV rl RU) ?wh ?aft (fun _ _ e => e.elim)
    case aft =>
      rintro f s' ⟨rfl, h9, tk9, m9, rl, c9, t9, rfl, F9, rfl, N9, hrl⟩
      rw [hm7] at F9
      dsimp only [mOf] at F9
      dsimp only
      clear F8 N8 hm7
      iterate 4 walk1
      rename Fr _ _ _ _ => F10
      refine ListComp_R (F₀ := F10) (by with_unfolding_all rfl) (by decide) (by rfl) (by decide) (by rfl) ?_
      iterate 7 walk1
      rename Fr _ _ _ _ => F11
      rename News _ _ _ _ => N11
      have hjH : j < H.length := by rw [K.lenH]; exact hj
      obtain ⟨hh, hhh⟩ : ∃ hh, H[j]? = some hh := ⟨_, List.getElem?_eq_getElem hjH⟩
      have hhD : H.getD j [] = hh := by rw [List.getD_eq_getElem?_getD, hhh]; rfl
      obtain ⟨dvx, hdx, da, dus, dc, rfl, hdm, hdus⟩ := hdv.get hhh
      have hdmr : (da, PySem.W.listOf dus.toArray dc) ∈ rest := by rw [hrest]; exact List.mem_append_left _ hdm
      refine item_listL ⟨_, (N11 _ mm3).1, rfl, _, rfl⟩ hj0 (by lia) (by rw [Int.toNat_natCast]; exact hdx) ?_
      have hdaL : Heap.IsList h9 da dus.toArray := ⟨_, (N11 _ (List.mem_append_right [_, _, _, _, _, _, _, _, _, _] hdmr)).1, rfl, _, rfl⟩
      iterate 2 walk1
      rename Fr _ _ _ _ => F12
      rename News _ _ _ _ => N12
      rename Addr => vI
      rename _ ∧ _ => lI
      have zI : @LT.lt Nat _ rA vI := lI.1
      have NI := N12 _ mm0
      have N13 : News h₀ L _ _ := fun q hq => N12 q (.tail _ hq)
      refine ⟨vI, da, dus.toArray, _, rfl, rfl, F12, N13, ⟨_, NI.1, rfl, by rw [List.size_toArray]; rfl⟩, .inr ⟨_, List.mem_append_right [_, _, _, _, _, _, _, _, _, _] hdmr, rfl, _, rfl⟩, fa_cons (Nat.ne_of_lt zI) (fun q hq => Nat.ne_of_lt (Nat.lt_trans (hltR q hq) zI)), Ne.symm NI.2.1, NI.2.2, by rw [List.size_toArray, sizeLine_eq]; have := K.short hh (List.mem_of_getElem? hhh); have := hdus.length; lia, fun g => ?_⟩
      refine rest_J (fun i ys nw => nw = _ ∧ F2 strV ys (RU.take i)) ⟨rfl, .nil⟩ ?cturn ?cfin
      case cturn =>
        rintro i v I oI C oC D2 m₂ ys nw h14 tk14 E₉ hi hv2 ⟨rfl, hys⟩ hC hx F₉ N₉ off ne
        refine comp_gen fun Qc1 hQc1 => ?_
        obtain ⟨hi1, hi2⟩ := hv2
        rw [List.size_toArray] at hi1
        rw [List.size_toArray, List.getElem?_toArray] at hi2
        obtain ⟨kk, tkk, rfl, hkk⟩ := ints_at hdus hi2
        have hkb := K.bnd hh (List.mem_of_getElem? hhh) kk (List.mem_of_getElem? hkk)
        obtain ⟨y, hy⟩ : ∃ y, O[kk.toNat]? = some y := ⟨_, List.getElem?_eq_getElem (by rw [K.lenO]; lia)⟩
        obtain ⟨yv, hyv, ⟨ty, rfl⟩⟩ := hhv.get hy
        have hy100 := K.oshort y (List.mem_of_getElem? hy)
        iterate 5 walk1
        refine item_listL ⟨_, (N₉ _ mm4).1, rfl, _, rfl⟩ hkb.1 (by lia) hyv ?_
        refine add_str (fun t15 tk15 => ?_) (by show 1 + y.toArray.size ≤ _; rw [List.size_toArray, sizeLine_eq]; lia)
        have hdot3 : Str.ofString "." ++ mkS y = mkS (46 :: y) := by rw [show Str.ofString "." = mkS [46] by decide, mkS_app]; rfl
        rw [hdot3]
        refine hQc1 _ _ ?_
        refine LCg.CompEnd.intro F₉ N₉ _ (fun p hp => hp) off (.inr ⟨_, List.mem_append_right [_, _, _, _, _, _, _, _, _, _] hdmr, rfl, _, rfl⟩) ⟨rfl, ?_⟩
        have hRi : RU[i]? = some (46 :: y) := by
          rw [hRU, rungsOf, hhD, List.getElem?_map, List.getElem?_reverse (by rw [← hdus.length]; exact hi1), ← hdus.length, hkk]
          show some (46 :: O.getD kk.toNat []) = _
          rw [List.getD_eq_getElem?_getD, hy]
          rfl
        rw [List.take_add_one, hRi]
        exact hys.append (.cons ⟨_, rfl⟩ .nil)
      case cfin =>
        rintro ys nw ⟨rfl, hys⟩
        have hRlen : RU.length = dus.length := by rw [hRU, rungsOf, hhD, List.length_map, List.length_reverse, hdus.length]
        rw [List.size_toArray, ← hRlen, List.take_length] at hys
        unfold LCg.FinE
        intro D2 h16 tk16 F16 N16 off16
        have hRok : ∀ o ∈ RU, ∀ c ∈ o, c < 128 := by
          intro o ho c hc
          rw [hRU, rungsOf] at ho
          obtain ⟨z, _, rfl⟩ := List.mem_map.mp ho
          rcases List.mem_cons.mp hc with rfl | hc
          · decide
          · rw [List.getD_eq_getElem?_getD] at hc
            cases e : O[z.toNat]? with
            | none => rw [e] at hc; simp at hc
            | some y => rw [e] at hc; exact K.ook y (List.mem_of_getElem? e) c hc
        refine ne_strs (xs := rl) (ys := ys) ⟨_, (N16 _ mm1).1, rfl, _, rfl⟩ ⟨_, (N16 _ mm0).1, rfl, _, rfl⟩ hrl hys hRok (by show callerA.units + 3 + 64 < cLine; decide) ?_
        iterate 1 walk1
        refine ite_neg (by decide) ?_
        iterate 2 walk1
        rename Fr _ _ _ _ => F17
        have N17 : News h₀ L _ ((hA, PySem.W.listOf (List.toArray hv) ch) :: (lA, PySem.W.listOf (List.toArray lv) cl) :: (dA, PySem.W.listOf (List.toArray dv) cdd) :: (pA, PySem.W.listOf (List.toArray pv) cp) :: (L + 1 + 1 + 1, oR) :: (L + 1 + 1, oH) :: (L + 1, oD) :: (80, t80) :: (73, t73) :: rest) := fun q hq => N16 q (.tail _ (.tail _ hq))
        clear N16 N13 N12
        refine wpAny_For ?_
        iterate 7 walk1
        rename IsRange _ _ _ _ _ _ _ _ => Rg2
        rename Fr _ _ _ _ => F18
        rename News _ _ _ _ => N18
        obtain ⟨m18, hm18⟩ : ∃ m18, m18 = mOf F18 := ⟨_, rfl⟩
        have ⟨hrs2, hrm2⟩ := up_size (a := 0) (n := M) (b := (M : Int)) (by lia) (by lia) (by lia) (by lia) (by lia)
        have hlt18 := news_lt N18
        rw [hrest] at N18 hlt18
        refine iterRange_J rfl Rg2 hrm2 hrs2 F18 N18 (fun t m' nw => (∀ y, y ≠ Str.ofString "other" → m' y = m18 y) ∧ (∀ p ∈ LED, p ∈ nw) ∧ ∀ p ∈ own, p ∈ nw) ?mono2 ?start2 ?turn2 ?done2
        case mono2 =>
          rintro t m' nw nw' ⟨e, hin, hown⟩ hk
          exact ⟨e, fun p hp => hk p (hin p hp) (.inl (hLn p hp)), fun p hp => hk p (hown p hp) (.inr (Nat.ne_of_lt (hlt18 p (List.mem_append_right [_, _, _, _, _, _, _, _, _] (List.mem_append_right _ hp)))))⟩
        case start2 =>
          refine ⟨fun y _ => by rw [hm18]; rfl, ?_, fun p hp => List.mem_append_right [_, _, _, _, _, _, _, _, _] (List.mem_append_right _ hp)⟩
          rw [hLED]
          intro p hp
          rcases List.mem_append.mp (show p ∈ [_, _, _, _, _, _, _, _, _] ++ imm from hp) with hp | hp
          · exact List.mem_append_left _ hp
          · exact List.mem_append_right [_, _, _, _, _, _, _, _, _] (List.mem_append_left _ hp)
        case done2 =>
          rintro m₁ news₁ h tk ⟨hag2, hin2, hown2⟩ F N
          obtain ⟨b1, rfl⟩ := ag1 hag2
          dsimp only
          refine wpAny_execs_nil ?_
          refine hQt1 _ ?_
          refine LoopEnd.intro F N hown2 ⟨?_, hin2⟩
          intro y y1 y2 y3 y4
          dsimp only
          rw [if_neg y4, hm18]
          dsimp only [mOf]
          rw [if_neg y3, if_neg y2, if_neg y1, if_neg y1, if_neg y2, if_neg y3, if_neg y4, hm3]
          rfl
        case turn2 =>
          rintro t tv2 m₁ news₁ h tkB own2 E₂ ht ⟨hag2, hin2, hown2⟩ ho2 F N
          refine turn_gen fun Qt2 hQt2 => ?_
          obtain ⟨b1, rfl⟩ := ag1 hag2
          rw [hm18] at F
          dsimp only [mOf] at F
          obtain ⟨rest2, hrest2⟩ : ∃ rest2, rest2 = imm ++ own ++ own2 := ⟨_, rfl⟩
          have N' : News h₀ L h ((hA, PySem.W.listOf (List.toArray hv) ch) :: (lA, PySem.W.listOf (List.toArray lv) cl) :: (dA, PySem.W.listOf (List.toArray dv) cdd) :: (pA, PySem.W.listOf (List.toArray pv) cp) :: (L + 1 + 1 + 1, oR) :: (L + 1 + 1, oH) :: (L + 1, oD) :: (80, t80) :: (73, t73) :: rest2) := by
            rw [hrest2]
            refine news_re (imm := imm ++ own) [_, _, _, _, _, _, _, _, _] (fun p hp => ?_) N
            rw [← List.append_assoc] at hp
            rcases List.mem_append.mp hp with hp | hp
            · rw [hLED] at hin2
              exact hin2 p hp
            · exact hown2 p hp
          have e2 : (0 : Int) + (t : Int) * 1 = (t : Int) := by lia
          rw [e2]
          clear N
          have ht6 : t < 6 := by lia
          have ht0 : 0 ≤ (t : Int) := by lia
          iterate 10 walk1
          have fin : ∀ (h' : Heap) (tk' : Nat) (m' : Str → Option Value) (nw : List (Addr × Obj)), Fr h₀ L h' m' → News h₀ L h' nw → (∀ p ∈ LED, p ∈ nw) → (∀ p ∈ own, p ∈ nw) → (∀ p ∈ own2, p ∈ nw) → (∀ y, y ≠ Str.ofString "other" → m' y = m18 y) →
            LoopEnd h₀ L own2 (fun m' nw => (∀ y, y ≠ Str.ofString "other" → m' y = m18 y) ∧ (∀ p ∈ LED, p ∈ nw) ∧ ∀ p ∈ own, p ∈ nw) { s with heap := h, toks := tkB } { s with heap := h', toks := tk' } := fun h' tk' m' nw F N i1 i2 i3 e => ⟨h', tk', m', nw, rfl, F, N, i3, e, i1, i2⟩
          have i1 : ∀ p ∈ LED, p ∈ (hA, PySem.W.listOf (List.toArray hv) ch) :: (lA, PySem.W.listOf (List.toArray lv) cl) :: (dA, PySem.W.listOf (List.toArray dv) cdd) :: (pA, PySem.W.listOf (List.toArray pv) cp) :: (L + 1 + 1 + 1, oR) :: (L + 1 + 1, oH) :: (L + 1, oD) :: (80, t80) :: (73, t73) :: rest2 := by
            rw [hLED, hrest2]
            intro p hp
            rcases List.mem_append.mp (show p ∈ [_, _, _, _, _, _, _, _, _] ++ imm from hp) with hp | hp
            · exact List.mem_append_left _ hp
            · exact List.mem_append_right [_, _, _, _, _, _, _, _, _] (List.mem_append_left _ (List.mem_append_left _ hp))
          have i2 : ∀ p ∈ own, p ∈ (hA, PySem.W.listOf (List.toArray hv) ch) :: (lA, PySem.W.listOf (List.toArray lv) cl) :: (dA, PySem.W.listOf (List.toArray dv) cdd) :: (pA, PySem.W.listOf (List.toArray pv) cp) :: (L + 1 + 1 + 1, oR) :: (L + 1 + 1, oH) :: (L + 1, oD) :: (80, t80) :: (73, t73) :: rest2 := fun p hp => by
            rw [hrest2]
            exact List.mem_append_right [_, _, _, _, _, _, _, _, _] (List.mem_append_left _ (List.mem_append_right _ hp))
          have i3 : ∀ p ∈ own2, p ∈ (hA, PySem.W.listOf (List.toArray hv) ch) :: (lA, PySem.W.listOf (List.toArray lv) cl) :: (dA, PySem.W.listOf (List.toArray dv) cdd) :: (pA, PySem.W.listOf (List.toArray pv) cp) :: (L + 1 + 1 + 1, oR) :: (L + 1 + 1, oH) :: (L + 1, oD) :: (80, t80) :: (73, t73) :: rest2 := fun p hp => by
            rw [hrest2]
            exact List.mem_append_right [_, _, _, _, _, _, _, _, _] (List.mem_append_right _ hp)
          by_cases htj : t = j
          · refine ite_neg (by simp [htj]) ?_
            refine ite_neg (by decide) ?_
            iterate 2 walk1
            rename Fr _ _ _ _ => F19
            rename News _ _ _ _ => N19
            refine hQt2 _ ?_
            refine fin _ _ _ _ F19 N19 i1 i2 i3 (fun y y1 => ?_)
            rw [if_neg y1, if_neg y1, hm18]
            rfl
          · refine ite_pos (by simp; lia) ?_
            iterate 9 walk1
            rename Fr _ _ _ _ => F19
            rename News _ _ _ _ => N19
            refine item_listL ⟨_, (N19 _ mm0).1, rfl, _, rfl⟩ hj0 (by lia) (by rw [Int.toNat_natCast]; exact hxv) ?_
            obtain ⟨z, hz⟩ : ∃ z, O[t]? = some z := ⟨_, List.getElem?_eq_getElem (by rw [K.lenO]; exact ht)⟩
            have hzD : O.getD t [] = z := by rw [List.getD_eq_getElem?_getD, hz]; rfl
            obtain ⟨zv, hzv, ⟨tz, rfl⟩⟩ := hhv.get hz
            have hz100 := K.oshort z (List.mem_of_getElem? hz)
            have kd := K.dm j t hj ht (fun e => htj e.symm)
            rw [hxoD, hzD, hhD] at kd
            obtain ⟨m1, m2, m3', m4, m5, m6, m7', m8⟩ := kd
            iterate 6 walk1
            rename Fr _ _ _ _ => F20
            rename News _ _ _ _ => N20
            refine item_listL ⟨_, (N20 _ mm0).1, rfl, _, rfl⟩ ht0 (by lia) (by rw [Int.toNat_natCast]; exact hzv) ?_
            refine add_str (fun t15 tk15 => ?_) (by show 1 + z.toArray.size ≤ _; rw [List.size_toArray, sizeLine_eq]; lia)
            have hdot4 : Str.ofString "." ++ mkS z = mkS (46 :: z) := by rw [show Str.ofString "." = mkS [46] by decide, mkS_app]; rfl
            rw [hdot4]
            iterate 2 walk1
            refine domain_match_spec (p := p) (loose := loose) (mg := mg) (mb := mb) ?v1 ?v2 m1 m2 m3' m4 ?v3 ?v4 m7' ?v5 ?v6 fun h21 tk21 hs21 => ?_
            case v1 => exact X.keeps F20.keep
            case v2 => exact hTR.keeps F20.keep
            case v3 => rw [mkS_len]; lia
            case v4 => rw [mkS_len]; lia
            case v5 => decide
            case v6 => decide
            have F21 := F20.keeps hs21
            have N21 := N20.grown hs21
            clear F20 N20
            rw [m8]
            dsimp only
            iterate 5 walk1
            rename Fr _ _ _ _ => F22
            rename News _ _ _ _ => N22
            refine item_listL ⟨_, (N22 _ mm2).1, rfl, _, rfl⟩ hj0 (by lia) (by rw [Int.toNat_natCast]; exact hdx) ?_
            have hdm2 : (da, PySem.W.listOf dus.toArray dc) ∈ rest2 := by rw [hrest2]; exact List.mem_append_left _ (List.mem_append_left _ hdm)
            refine in_list_ints ⟨_, (N22 _ (List.mem_append_right [_, _, _, _, _, _, _, _, _] hdm2)).1, rfl, _, rfl⟩ hdus ?_
            iterate 2 walk1
            have hany : (hh.any fun x => x == (t : Int)) = hh.contains (t : Int) := List.any_beq'
            refine ite_neg (by rw [hany]; simp) ?_
            refine ite_neg (by decide) ?_
            iterate 2 walk1
            refine hQt2 _ ?_
            refine fin _ _ _ _ F22 N22 i1 i2 i3 (fun y y1 => ?_)
            rw [if_neg y1, if_neg y1, hm18]
            rfl
    case wh =>
      refine While_inv (fun n m nw => ∃ i rl c d t, n + i = RU.length ∧ (RU ++ [dotLocal])[i]? = some d ∧ m = (fun y => if y = Str.ofString "domain" then some (Value.str (mkS d) t) else m7 y) ∧ nw = ((rA, PySem.W.listOf (List.toArray rl) c) :: (hA, PySem.W.listOf (List.toArray hv) ch) :: (lA, PySem.W.listOf (List.toArray lv) cl) :: (dA, PySem.W.listOf (List.toArray dv) cdd) :: (pA, PySem.W.listOf (List.toArray pv) cp) :: (L + 1 + 1 + 1, oR) :: (L + 1 + 1, oH) :: (L + 1, oD) :: (80, t80) :: (73, t73) :: rest) ∧ F2 strV rl (RU.take i)) (n₀ := RU.length) F8 N8 ?st ?tu (fun _ _ q => q.elim)
      case st =>
        exact ⟨0, [], 0, 46 :: rb, t7, rfl, hd0, by rw [hm7]; rfl, rfl, .nil⟩
      case tu =>
        rintro n m₁ news₁ h₁ tk₁ F₁ N₁ ⟨i, rl, c, d, t, hni, hd, rfl, rfl, hrl⟩
        rw [hm7] at F₁
        dsimp only [mOf] at F₁
        iterate 5 walk1
        by_cases hi : i < RU.length
        · have hdR : RU[i]? = some d := by rw [← hd, List.getElem?_append_left hi]
          have hdm : d ∈ RU := List.mem_of_getElem? hdR
          have hdl : (mkS d != Str.ofString ".local") = true := by
            rw [show Str.ofString ".local" = mkS dotLocal by decide, bne_iff_ne]
            intro q
            refine kl d hdm ?_
            have := congrArg (fun s : Str => s.cps.toList) q
            simpa using this
          refine ite_pos hdl ?_
          iterate 10 walk1
          rename Fr _ _ _ _ => F10
          rename News _ _ _ _ => N10
          have hrll : rl.length ≤ 6 := by rw [hrl.length, List.length_take]; lia
          refine append_K F10 N10 (.head hneR) (fun h11 F11 N11 => ?_) (by rw [List.size_toArray, sizeLine_eq]; lia)
          rw [List.push_toArray] at N11
          clear F10 N10
          obtain ⟨x, rfl⟩ : ∃ x, d = 46 :: x := by
            rw [hRU, rungsOf] at hdm
            obtain ⟨z, _, rfl⟩ := List.mem_map.mp hdm
            exact ⟨_, rfl⟩
          have hx100 : x.length ≤ 100 := by
            rw [hRU, rungsOf] at hdm
            obtain ⟨z, _, ez⟩ := List.mem_map.mp hdm
            cases ez
            rw [List.getD_eq_getElem?_getD]
            cases e : O[z.toNat]? with
            | none => simp
            | some y => exact K.oshort y (List.mem_of_getElem? e)
          have hdS : (mkS (46 :: x)).length ≤ 1000 := by rw [mkS_len, List.length_cons]; lia
          obtain ⟨d2, hd2⟩ : ∃ d2, (RU ++ [dotLocal])[i + 1]? = some d2 := ⟨_, List.getElem?_eq_getElem (by simp; lia)⟩
          obtain ⟨rH2, ri2, rb2, rfl, rfi2, ri02, ri12, rsl2, ror2, rbl2⟩ := kn i x d2 hdR hd2
          iterate 16 walk1
          rw [slice_one]
          rename Fr _ _ _ _ => F12
          rename News _ _ _ _ => N12
          refine reach_spec (p := p) (loose := loose) (mg := mg) (mb := mb) ?w1 ?w2 rH2 rfi2 ri02 ri12 rsl2 ror2 ?w3 ?w4 ?w5 fun h13 tk13 t13 hs13 => ?_
          case w1 => exact X.keeps F12.keep
          case w2 => exact hTR.keeps F12.keep
          case w3 => rw [mkS_len]; lia
          case w4 => decide
          case w5 => decide
          have F13 := F12.keeps hs13
          have N13 := N12.grown hs13
          clear F12 N12
          have hdot2 : Str.ofString "." ++ mkS rb2 = mkS (46 :: rb2) := by rw [show Str.ofString "." = mkS [46] by decide, mkS_app]; rfl
          rw [hdot2]
          dsimp only
          iterate 3 walk1
          rename Fr _ _ _ _ => F14
          rename News _ _ _ _ => N14
          refine WhileStep.intro F14 N14 (n' := n - 1) (by lia) ?_
          refine ⟨i + 1, rl ++ [.str (mkS (46 :: x)) t], c + 1, 46 :: rb2, t13, by lia, hd2, ?_, rfl, ?_⟩
          · rw [hm7]; exact norm1
          · rw [List.take_add_one, hdR]
            exact hrl.append (.cons ⟨_, rfl⟩ .nil)
        · have hd' := hd
          have hie : i = RU.length := by
            have := (List.getElem?_eq_some_iff.mp hd).1
            simp at this
            lia
          rw [hie, List.getElem?_append_right (Nat.le_refl _), Nat.sub_self] at hd'
          cases hd'
          refine ite_neg ?eq ?_
          case eq =>
            rw [show Str.ofString ".local" = mkS dotLocal by decide]
            simp
          rename Fr _ _ _ _ => F10
          rename News _ _ _ _ => N10
          rw [hie, List.take_length] at hrl
          exact ⟨rfl, _, _, _, rl, c, t, rfl, F10, by rw [hm7]; rfl, N10, hrl⟩
end Mine
end
section
theorem Mine.startCodec : True := by
  w_top off
  trivial
open PySem PySem.Spec PySem.Calls PyProof.Rows PySem.W
set_option maxRecDepth 100000
set_option maxHeartbeats 2000000
namespace Mine
noncomputable def bytesL (l : List Nat) : Array UInt8 := (l.map Nat.toUInt8).toArray
theorem fold_bytes : ∀ (l : List Nat) (a : Array UInt8), l.foldl (fun acc y => acc ++ (Builtin._codecs.asciiCodec.bytesOf y).toArray) a = a ++ bytesL l
  | [], a => by simp [bytesL]
  | c :: r, a => by
    rw [List.foldl_cons, fold_bytes r]
    apply Array.toList_inj.mp
    simp [bytesL, Builtin._codecs.asciiCodec]
theorem enc_eq {id : String} {self : Value} {l : List Nat} (h : ∀ c ∈ l, c < 128) (hl : l.length ≤ 1000) :
    Builtin._codecs.encodeNarrow id Builtin._codecs.asciiCodec none self (mkS l) = pure (bytesL l) := by
  have hfi : (l.toArray.findIdx? Builtin._codecs.asciiCodec.bad) = none := by
    rw [Array.findIdx?_eq_none_iff]
    intro x hx
    have := h x (by simpa using hx)
    simp [Builtin._codecs.asciiCodec]
    lia
  unfold Builtin._codecs.encodeNarrow
  refine (congrArg (fun z => z >>= _) (Std.Legacy.Range.forIn_eq_forIn_range' _ _ _)).trans ?_
  generalize hf : (fun (x : Nat) (__s : Nat × Array UInt8 × Builtin._codecs.Faults) => _) = f
  cases l with
  | nil => rfl
  | cons c r =>
    have hc := h c (.head _)
    have h0 : ¬ (#[] : Array UInt8).size > sizeLine := by rw [sizeLine_eq]; exact of_decide_eq_false rfl
    have hb : (!Builtin._codecs.asciiCodec.bad c) = true := by simp [Builtin._codecs.asciiCodec]; lia
    have hsz : ([0 : (mkS (c :: r)).length] : Std.Legacy.Range).size = r.length + 1 := by
      simp [Std.Legacy.Range.size, mkS_len]
    have hex : (mkS (c :: r)).cps.extract 0 (mkS (c :: r)).cps.size = (c :: r).toArray := by simp
    have hn : (Array.findIdx? Builtin._codecs.asciiCodec.bad ((mkS (c :: r)).cps.extract 0 (mkS (c :: r)).cps.size)).getD ((mkS (c :: r)).cps.extract 0 (mkS (c :: r)).cps.size).size = (c :: r).length := by
      rw [hex, hfi]; rfl
    have hb2 : (bytesL (c :: r)).size = r.length + 1 := by simp [bytesL]
    have hs2 : ¬ (bytesL (c :: r)).size > sizeLine := by rw [hb2, sizeLine_eq]; simp at hl; lia
    have hfo : Array.foldl (fun acc y => acc ++ (Builtin._codecs.asciiCodec.bytesOf y).toArray) #[] (((mkS (c :: r)).cps.extract 0 (mkS (c :: r)).cps.size).extract 0 (c :: r).length) = bytesL (c :: r) := by
      rw [hex, show (c :: r).toArray.extract 0 (c :: r).length = (c :: r).toArray by simp, List.foldl_toArray, fold_bytes]
      simp
    have s1 : f 0 (0, #[], {}) = pure (ForInStep.yield ((c :: r).length, bytesL (c :: r), {})) := by
      subst hf
      refine (if_neg h0).trans ?_
      refine (if_pos hb).trans ?_
      show pure (ForInStep.yield (0 + (Array.findIdx? _ _).getD _, Array.foldl _ #[] (Array.extract _ 0 ((Array.findIdx? _ _).getD _)), _)) = _
      rw [hn, Nat.zero_add, hfo]
    have s2 : ∀ x, f x ((c :: r).length, bytesL (c :: r), {}) = pure (ForInStep.done ((c :: r).length, bytesL (c :: r), {})) := by
      intro x
      have e7 : (mkS (c :: r)).cps[(c :: r).length]? = none := by simp
      subst hf
      refine (if_neg hs2).trans ?_
      rw [e7]
    rw [hsz, List.range'_succ, List.forIn_cons, s1]
    refine (congrArg (fun z => z >>= _) (pure_bind _ _)).trans ?_
    cases r with
    | nil => rfl
    | cons d q =>
      dsimp only
      rw [List.length_cons, List.range'_succ, List.forIn_cons, s2]
      rfl
theorem dec_eq {id : String} {l : List Nat} (h : ∀ c ∈ l, c < 128) (hl : l.length ≤ 100000) : Builtin._codecs.runDecoder id Builtin._codecs.asciiDecoder none true (bytesL l) 0 [] = pure (l.toArray, l.length) := by
  unfold Builtin._codecs.runDecoder
  simp only [Std.Legacy.Range.forIn_eq_forIn_range']
  have hsz : ([0 : (bytesL l).size] : Std.Legacy.Range).size = l.length := by simp [Std.Legacy.Range.size, bytesL]
  rw [hsz]
  generalize hf : (fun (x : Nat) (__s : Nat × Array Nat × Builtin._codecs.Faults) => _) = f
  have step : ∀ x p, p < l.length → f x (p, (l.take p).toArray, { }) = pure (ForInStep.yield (p + 1, (l.take (p + 1)).toArray, { })) := by
    intro x p hp
    rw [← hf]
    have e1 : ¬ ((l.take p).toArray.size > sizeLine) := by rw [List.size_toArray, List.length_take, sizeLine_eq]; omega
    have e2 : ¬ (p ≥ (bytesL l).size) := by simp [bytesL]; omega
    have e3 : Builtin._codecs.asciiDecoder.find true (bytesL l) p = .text [l[p]] (p + 1) := by
      have hc := h l[p] (List.getElem_mem hp)
      have e4 : ((bytesL l).getD p 0).toNat = l[p] := by
        simp [bytesL, Array.getD_eq_getD_getElem?, hp]
        omega
      show (if ((bytesL l).getD p 0).toNat < 128 then _ else _) = _
      rw [e4, if_pos hc]
      rfl
    dsimp only
    rw [if_neg e1, if_neg e2, e3]
    dsimp only
    rw [List.take_add_one, List.getElem?_eq_getElem hp, List.append_toArray]
    rfl
  have key : ∀ (n p : Nat), n + p = l.length → ∀ q, forIn (List.range' q n 1) (p, (l.take p).toArray, ({ } : Builtin._codecs.Faults)) f = (pure (l.length, l.toArray, { }) : Sem _) := by
    intro n
    induction n with
    | zero =>
      intro p hp q
      have hp' : p = l.length := by omega
      subst hp'
      rw [List.range'_zero, List.forIn_nil, List.take_length]
    | succ n ih =>
      intro p hp q
      rw [List.range'_succ, List.forIn_cons, step q p (by omega), pure_bind]
      exact ih (p + 1) (by omega) (q + 1)
  have := key l.length 0 rfl 0
  rw [List.take_zero] at this
  rw [this, pure_bind]
open Builtin Builtin._codecs in
theorem encTree (x : Str) (t u : Tok) : «str.encode» ⟨[.str x t, .str (Str.ofString "ascii") u], []⟩ = (do ret (← encodeRoad "str.encode" (.str x t) x (Str.ofString "ascii") none)) := by kernel_rfl
open Builtin Builtin._codecs in
theorem encRoad (id : String) (self : Value) (x : Str) : encodeRoad id self x (Str.ofString "ascii") none = (encodeNarrow id asciiCodec none self x >>= fun b => mkBytes b) := by kernel_rfl
section
variable {prog : Program} {w : World} {A : Around} {E : Value → Shared → Prop} {s : Shared} {Q : Value → Shared → Prop}
theorem encode_asc {l : List Nat} {t u : Tok} (h : ∀ c ∈ l, c < 128) (hl : l.length ≤ 1000) (hq : ∀ t' k, Q (.bytes (bytesL l) t') { s with toks := k }) :
    wpAny (model prog w) A (call (.builtin "str.encode") [.str (mkS l) t, .str (Str.ofString "ascii") u]) Q E s := by
  refine wpAny_call_entry F.slot_str_encode (typeIs_str _ _ _) F.entry_str_encode ?_ (F.args_str_encode_2 _ _)
  rw [encTree, encRoad, enc_eq h hl]
  refine wpAny_bind (wpAny_bind (wpAny_pure (wpAny_mkBytes (wpAny_pure ⟨_, rfl, hq _ _⟩) ?_)))
  simp [bytesL, sizeLine_eq]
  omega
end
open Builtin Builtin._codecs in
theorem decRoad (id : String) (b : Array UInt8) : decodeRoad id b (Str.ofString "ascii") none [] = (runDecoder id asciiDecoder none true b 0 [] >>= fun r => mkStr ⟨r.1⟩) := by kernel_rfl
open Builtin Builtin._codecs in
theorem meets_dtext {t1 t2 t : Tok} {d : PySem.Str} {l : List Nat} (h : ∀ c ∈ l, c < 128) (hl : l.length ≤ 100000) :
    Meets («_codecs.decode.text» ⟨[.bytes (bytesL l) t, .str (PySem.Str.ofString "ascii") t1, .none, .str d t2], []⟩) (fun _ R s => R (.ok (.ret (.str (mkS l) s.toks))) { s with toks := s.toks + 1 }) := by
  refine .of_wp fun prog w A R s hS => ?_
  show wpAny _ _ (Bytes.bytesLike _ (.bytes (bytesL l) t) >>= fun r => _) _ _ s
  refine wpAny_bind (wpAny_of_eq KBd.like_eq ?_)
  refine wpAny_bind (wpAny_of_eq KBd.held_eq ?_)
  show wpAny _ _ (_codecs.decodeRoad _ (bytesL l) (PySem.Str.ofString "ascii") none [] >>= fun v => _) _ _ s
  rw [decRoad, dec_eq h hl]
  refine wpAny_bind (wpAny_bind (wpAny_pure ?_))
  refine wpAny_mkStr (wpAny_pure ⟨_, rfl, hS⟩) ?_
  show l.toArray.size ≤ _
  rw [List.size_toArray, sizeLine_eq]
  omega
open Builtin Builtin._codecs in
theorem decTree (c : UInt8) (cs : List UInt8) (t u : Tok) : «bytes.decode» ⟨[.bytes (c :: cs).toArray t, .str (Str.ofString "ascii") u], []⟩ = (mkStr (PySem.Str.ofString "utf-8") >>= fun _ => mkStr (PySem.Str.ofString "ascii") >>= fun e => mkStr (PySem.Str.ofString "bytes.decode") >>= fun d =>
    call (.builtin "_codecs.decode.text") [.bytes (c :: cs).toArray t, e, .none, d] >>= fun v => ret v) := by kernel_rfl
theorem args_dec2 (a b : Value) : argsOk "bytes.decode" ⟨[a, b], []⟩ := by
  unfold argsOk; rw [signature?_of (id := "bytes.decode") (n := ['e', 'd', 'o', 'c', 'e', 'd']) (o := ['s', 'e', 't', 'y', 'b']) (by kernel_rfl) FB.owner_bytes]; kernel_rfl
section
variable {prog : Program} {w : World} {A : Around} {E : Value → Shared → Prop} {s : Shared} {Q : Value → Shared → Prop}
theorem decode_asc {c : Nat} {l : List Nat} {t u : Tok} (h : ∀ x ∈ c :: l, x < 128) (hl : (c :: l).length ≤ 100000) (hq : ∀ t' k, Q (.str (mkS (c :: l)) t') { s with toks := k }) :
    wpAny (model prog w) A (call (.builtin "bytes.decode") [.bytes (bytesL (c :: l)) t, .str (Str.ofString "ascii") u]) Q E s := by
  refine wpAny_call_entry FB.slot_bytes_decode (typeIs_bytes _ _ _) FB.entry_bytes_decode ?_ (args_dec2 _ _)
  show wpAny _ _ (Builtin.«bytes.decode» ⟨[.bytes (c.toUInt8 :: l.map Nat.toUInt8).toArray t, .str (Str.ofString "ascii") u], []⟩) _ _ _
  rw [decTree]
  refine wpAny_bind (wpAny_mkStr ?_ (by decide))
  refine wpAny_bind (wpAny_mkStr ?_ (by decide))
  refine wpAny_bind (wpAny_mkStr ?_ (by decide))
  exact wpAny_bind (call_function_meets KBd.kind_text KBd.plain_text KBd.entry_text (KBd.args_text _ _ _ _) (meets_dtext (l := c :: l) h hl) (wpAny_pure ⟨_, rfl, hq _ _⟩))
end
theorem getM_encode {M : Model} {A : Around} {E : Value → Shared → Prop} {s : Shared} {x : Str} {t : Tok} {pl : Sem Bool} {Q : Value × List Value → Shared → Prop} (h : Q (.builtin "str.encode", [.str x t]) s) : wpAny M A (getMethod (.str x t) (Str.ofString "encode") pl) Q E s :=
  getMethod_builtin (typeIs_str _ _ _) PySem.F.plainAttrs_str PySem.F.slot_str_encode PySem.F.type_str_encode (fun _ e => nomatch e) h
end Mine
end
section
theorem Mine.startSegD : True := by
  w_top off
  trivial
open PySem PySem.Spec PySem.Calls PyProof.Rows PySem.W
set_option maxRecDepth 100000
set_option maxHeartbeats 8000000
namespace Mine
noncomputable def eolL (tot : Int) (k : Nat) : List Nat := if (tot + (k : Int)) % 2 = 0 then [10] else [13, 10]
noncomputable def rowL (tot : Int) (labs : List (List Nat)) (k : Nat) : List Nat := 46 :: labs.getD k [] ++ eolL tot k
noncomputable def rowsL (tot : Int) (labs : List (List Nat)) (M : Nat) : List (List Nat) := (List.range M).map (rowL tot labs)

theorem segD : ∀ {w : World} {L fa : Addr} {cd : Value} {R : Flow → Shared → Prop} {E : Value → Shared → Prop} {s : Shared} {h₀ : Heap} {p : Program} {loose : List Str} {mean : ExcName → Option Value} {mg mb : Str → Option Value} {m : Str → Option Value}
    {M : Nat} {tM tT : Tok} {tot : Int} {pA lA hA dA : Addr} {oR oH oD : Obj} {t80 t73 : Obj} {pv lv hv dv : List Value} {cp cl ch cdd : Nat} {imm : List (Addr × Obj)} {labs : List (List Nat)},
    ∀ (X : (Mine.hd.heap_39 w.params).In h₀) (T : Top p loose mean mg mb h₀)
    (F : Fr h₀ L s.heap m) (hm : Has m [(Str.ofString "many", .int M tM), (Str.ofString "total", .int tot tT), (Str.ofString "parents", .ref pA), (Str.ofString "labels", .ref lA)])
    (N : News h₀ L s.heap ((hA, PySem.W.listOf (List.toArray hv) ch) :: (lA, PySem.W.listOf (List.toArray lv) cl) :: (dA, PySem.W.listOf (List.toArray dv) cdd) :: (pA, PySem.W.listOf (List.toArray pv) cp) :: (L + 1 + 1 + 1, oR) :: (L + 1 + 1, oH) :: (L + 1, oD) :: (80, t80) :: (73, t73) :: imm))
    (dR : oR.data = .cell none) (dH : oH.data = .cell (some (.ref hA))) (dD : oD.data = .cell (some (.ref dA)))
    (him : ∀ p ∈ imm, isLst p.2 ∧ @LT.lt Nat _ hA p.1) (n80 : notIt t80 = true) (n73 : notIt t73 = true)
    (ord : @LT.lt Nat _ (L + 1 + 1 + 1) pA ∧ @LT.lt Nat _ pA dA ∧ @LT.lt Nat _ dA lA ∧ @LT.lt Nat _ lA hA ∧ @LT.lt Nat _ 80 L ∧ @LT.lt Nat _ 73 L)
    (hM : M ≤ 6) (hlv : F2 strV lv labs) (hll : labs.length = M) (hl3 : ∀ l ∈ labs, l.length ≤ 3) (hlok : ∀ l ∈ labs, ∀ c ∈ l, c < 128)
    (k : ∀ h tk m wA rv cr oR', Fr h₀ L h m → Has m [(Str.ofString "many", .int M tM), (Str.ofString "total", .int tot tT), (Str.ofString "parents", .ref pA), (Str.ofString "labels", .ref lA)] →
      News h₀ L h ((wA, PySem.W.listOf (List.toArray rv) cr) :: (hA, PySem.W.listOf (List.toArray hv) ch) :: (lA, PySem.W.listOf (List.toArray lv) cl) :: (dA, PySem.W.listOf (List.toArray dv) cdd) :: (pA, PySem.W.listOf (List.toArray pv) cp) :: (L + 1 + 1 + 1, oR') :: (L + 1 + 1, oH) :: (L + 1, oD) :: (80, t80) :: (73, t73) :: imm) →
      oR'.data = .cell (some (.ref wA)) → BytesAre rv ((rowsL tot labs M).map bytesL) → @LT.lt Nat _ hA wA →
      wpAny (model PySem.Challenge.rw_xe0036_01.row.prog w) (lawA L fa cd) (execs (lawDef.1.drop 13) (lawE L fa cd)) R E { s with heap := h, toks := tk }),
    wpAny (model PySem.Challenge.rw_xe0036_01.row.prog w) (lawA L fa cd) (execs (lawDef.1.drop 11) (lawE L fa cd)) R E s := by
  k_fill
  intro w L fa cd R E s h₀ p loose mean mg mb m M tM tT tot pA lA hA dA oR oH oD t80 t73 pv lv hv dv cp cl ch cdd imm labs X T F hm N dR dH dD him n80 n73 ord hM hlv hll hl3 hlok k
  conv at k in (List.drop _ _) => whnf
  conv in (List.drop _ _) => whnf
  unfold lawA lawE at k ⊢
  conv at k in lawDef.2 => whnf
  conv at k in lawDef.2 => whnf
  conv in lawDef.2 => whnf
  conv in lawDef.2 => whnf
  have hm0 := hm.nf
  rw [hm0] at F
  dsimp only [chain] at F
  obtain ⟨o3, o4, o5, o6, o7, o8⟩ := ord
  have hoff : OwnOff imm [L + 1 + 1 + 1] := fun p hp b hb => by
    have := (him p hp).2
    rw [List.mem_singleton.mp hb]
    exact Nat.ne_of_gt (by lia)
  have hlt0 := news_lt N
  iterate 4 walk1
  refine newList_N (vs := []) (by simp) F N (fun h5 F5 N5 => ?_)
  skip
  generalize s.heap.objs.size = wA at *
  clear F N
  have lw : @LT.lt Nat _ hA wA := hlt0 _ mm0
  have hlw : ∀ q ∈ imm, @LT.lt Nat _ q.1 wA := fun q hq => hlt0 q (List.mem_append_right [_, _, _, _, _, _, _, _, _] hq)
  iterate 3 walk1
  refine wpAny_For ?_
  iterate 7 walk1
  rename IsRange _ _ _ _ _ _ _ _ => Rg
  rename Fr _ _ _ _ => F3
  rename News _ _ _ _ => N3
  rename Obj => oR'
  rename oR'.data = _ => dR'
  obtain ⟨m3, hm3⟩ : ∃ m3, m3 = mOf F3 := ⟨_, rfl⟩
  have ⟨hrs, hrm⟩ := up_size (a := 0) (n := M) (b := (M : Int)) (by lia) (by lia) (by lia) (by lia) (by lia)
  have hlt3 := news_lt N3
  have hLn : ∀ rv cr, ∀ p ∈ (wA, PySem.W.listOf (List.toArray rv) cr) :: (hA, PySem.W.listOf (List.toArray hv) ch) :: (lA, PySem.W.listOf (List.toArray lv) cl) :: (dA, PySem.W.listOf (List.toArray dv) cdd) :: (pA, PySem.W.listOf (List.toArray pv) cp) :: (L + 1 + 1 + 1, oR') :: (L + 1 + 1, oH) :: (L + 1, oD) :: (80, t80) :: (73, t73) :: imm, notIt p.2 = true := fun rv cr =>
    fa_cons (P := fun p : Addr × Obj => notIt p.2 = true) rfl (fa_cons rfl (fa_cons rfl (fa_cons rfl (fa_cons rfl (fa_cons (notIt_cell dR') (fa_cons (notIt_cell dH) (fa_cons (notIt_cell dD) (fa_cons n80 (fa_cons n73 fun p hp => (him p hp).1.notIt)))))))))
  refine iterRange_J rfl Rg hrm hrs F3 N3 (fun j m' nw => (∀ y, y ≠ Str.ofString "one" → m' y = m3 y) ∧ ∃ rv cr, (∀ p ∈ (wA, PySem.W.listOf (List.toArray rv) cr) :: (hA, PySem.W.listOf (List.toArray hv) ch) :: (lA, PySem.W.listOf (List.toArray lv) cl) :: (dA, PySem.W.listOf (List.toArray dv) cdd) :: (pA, PySem.W.listOf (List.toArray pv) cp) :: (L + 1 + 1 + 1, oR') :: (L + 1 + 1, oH) :: (L + 1, oD) :: (80, t80) :: (73, t73) :: imm, p ∈ nw) ∧ BytesAre rv ((rowsL tot labs j).map bytesL)) ?mono ?start ?turn ?done
  case mono =>
    rintro j m' nw nw' ⟨e, rv, cr, hin, r⟩ hk
    exact ⟨e, rv, cr, fun p hp => hk p (hin p hp) (.inl (hLn rv cr p hp)), r⟩
  case start =>
    exact ⟨fun y _ => by rw [hm3]; rfl, [], 0, fun p hp => hp, .nil⟩
  case done =>
    rintro m₁ news₁ h tk ⟨hag, rv, cr, hin, hrv⟩ F N
    obtain ⟨a1, rfl⟩ := ag1 hag
    rw [hm3] at F
    dsimp only [mOf] at F
    exact k h tk _ wA rv cr oR' F (has_cons rfl (has_cons rfl (has_cons rfl (has_cons rfl has_nil)))) (fun p hp => N p (hin p hp)) dR' hrv lw
  case turn =>
    rintro j tv' m₁ news₁ h tkA own E₁ hj ⟨hag, rv, cr, hin, hrv⟩ ho F N
    refine turn_gen fun Qt1 hQt1 => ?_
    obtain ⟨a1, rfl⟩ := ag1 hag
    rw [hm3] at F
    dsimp only [mOf] at F
    obtain ⟨rest, hrest⟩ : ∃ rest, rest = imm ++ own := ⟨_, rfl⟩
    have N' : News h₀ L h ((wA, PySem.W.listOf (List.toArray rv) cr) :: (hA, PySem.W.listOf (List.toArray hv) ch) :: (lA, PySem.W.listOf (List.toArray lv) cl) :: (dA, PySem.W.listOf (List.toArray dv) cdd) :: (pA, PySem.W.listOf (List.toArray pv) cp) :: (L + 1 + 1 + 1, oR') :: (L + 1 + 1, oH) :: (L + 1, oD) :: (80, t80) :: (73, t73) :: rest) := by
      rw [hrest]
      exact news_re [_, _, _, _, _, _, _, _, _, _] hin N
    have e1 : (0 : Int) + (j : Int) * 1 = (j : Int) := by lia
    rw [e1]
    clear N
    have hj6 : j < 6 := by lia
    have hj0 : 0 ≤ (j : Int) := by lia
    have hIt := hlt3 _ mm0
    have hrne : ∀ q ∈ rest, q.1 ≠ wA := fun q hq => by
      rw [hrest] at hq
      rcases List.mem_append.mp hq with hq | hq
      · exact Nat.ne_of_lt (hlw q hq)
      · rw [ho q hq]; exact Nat.ne_of_gt hIt
    iterate 16 walk1
    rename Fr _ _ _ _ => F4
    rename News _ _ _ _ => N4
    obtain ⟨lb, hlb⟩ : ∃ lb, labs[j]? = some lb := ⟨_, List.getElem?_eq_getElem (by lia)⟩
    have hlbD : labs.getD j [] = lb := by rw [List.getD_eq_getElem?_getD, hlb]; rfl
    obtain ⟨lbv, hlbv, ⟨tl, rfl⟩⟩ := hlv.get hlb
    have hlb3 := hl3 lb (List.mem_of_getElem? hlb)
    refine item_listL ⟨_, (N4 _ mm2).1, rfl, _, rfl⟩ hj0 (by lia) (by rw [Int.toNat_natCast]; exact hlbv) ?_
    refine add_str (fun t15 tk15 => ?_) (by show 1 + lb.toArray.size ≤ _; rw [List.size_toArray, sizeLine_eq]; lia)
    have hdot3 : Str.ofString "." ++ mkS lb = mkS (46 :: lb) := by rw [show Str.ofString "." = mkS [46] by decide, mkS_app]; rfl
    rw [hdot3]
    iterate 7 walk1
    rename Heap => h4
    have hlt4 := news_lt N4
    refine newList_N (by simp) F4 N4 (fun h5 F5 N5 => ?_)
    dsimp only at F5 N5 ⊢
    generalize h4.objs.size = nA at *
    clear F4 N4
    have ln : @LT.lt Nat _ wA nA := hlt4 _ mm0
    iterate 7 walk1
    rename Fr _ _ _ _ => F6
    rename News _ _ _ _ => N6
    have hix : (tot + (j : Int)).fmod 2 = (tot + (j : Int)) % 2 := Int.fmod_eq_emod_of_nonneg _ (by decide)
    rw [hix]
    have hx0 := Int.emod_nonneg (tot + (j : Int)) (show (2 : Int) ≠ 0 by decide)
    have hx2 := Int.emod_lt_of_pos (tot + (j : Int)) (show (0 : Int) < 2 by decide)
    have heol : eolL tot j = if (tot + (j : Int)) % 2 = 0 then [10] else [13, 10] := rfl
    generalize (tot + (j : Int)) % 2 = ix at *
    have hxe : ∀ t1 t2, ∃ tx, [Value.str (Str.ofString "\n") t1, Value.str (Str.ofString "\r\n") t2][ix.toNat]? = some (.str (mkS (eolL tot j)) tx) := by
      intro t1 t2
      rcases (show ix = 0 ∨ ix = 1 by lia) with rfl | rfl
      · exact ⟨t1, by rw [heol]; rfl⟩
      · exact ⟨t2, by rw [heol]; rfl⟩
    have hlit : Heap.IsList _ nA _ := ⟨_, (N6 _ mm0).1, rfl, _, rfl⟩
    refine tail_any hlit.typeIs slot_list_getitem.lookup (getItem_listL hlit hx0 (by lia) (Exists.choose_spec (hxe _ _)) ?_) (by with_unfolding_all rfl)
    have heol2 : (eolL tot j).length ≤ 2 := by rw [heol]; split <;> decide
    generalize Exists.choose (hxe _ _) = txx
    refine add_str (fun t16 tk16 => ?_) (by rw [mkS_len, mkS_len, List.length_cons, sizeLine_eq]; lia)
    have hrow : mkS (46 :: lb) ++ mkS (eolL tot j) = mkS (rowL tot labs j) := by rw [mkS_app, rowL, hlbD]
    rw [hrow]
    refine getM_encode ?_
    iterate 4 walk1
    have hrok : ∀ c ∈ rowL tot labs j, c < 128 := by
      intro c hc
      rw [rowL, hlbD] at hc
      rcases List.mem_append.mp hc with hc | hc
      · rcases List.mem_cons.mp hc with rfl | hc
        · decide
        · exact hlok lb (List.mem_of_getElem? hlb) c hc
      · rw [heol] at hc
        split at hc
        · simp at hc; lia
        · simp at hc; lia
    refine encode_asc hrok (by rw [rowL, hlbD, List.length_append, List.length_cons]; lia) fun t17 tk17 => ?_
    iterate 1 walk1
    rename Fr _ _ _ _ => F8
    rename News _ _ _ _ => N8
    have hrl : rv.length = j := by rw [hrv.length, List.length_map, rowsL, List.length_map, List.length_range]
    have hneX : nA ≠ wA ∧ hA ≠ wA ∧ lA ≠ wA ∧ dA ≠ wA ∧ pA ≠ wA ∧ L + 1 + 1 + 1 ≠ wA ∧ L + 1 + 1 ≠ wA ∧ L + 1 ≠ wA ∧ 80 ≠ wA ∧ 73 ≠ wA := ⟨Nat.ne_of_gt (by lia), Nat.ne_of_lt (by lia), Nat.ne_of_lt (by lia), Nat.ne_of_lt (by lia), Nat.ne_of_lt (by lia), Nat.ne_of_lt (by lia), Nat.ne_of_lt (by lia), Nat.ne_of_lt (by lia), Nat.ne_of_lt (by lia), Nat.ne_of_lt (by lia)⟩
    obtain ⟨x0, x1, x2, x3, x4, x5, x6, x7, x8, x9⟩ := hneX
    refine append_K F8 N8 (.tail x0 (.head (fa_cons x1 (fa_cons x2 (fa_cons x3 (fa_cons x4 (fa_cons x5 (fa_cons x6 (fa_cons x7 (fa_cons x8 (fa_cons x9 hrne))))))))))) (fun h9 F9 N9 => ?_) (by rw [List.size_toArray, sizeLine_eq]; lia)
    rw [List.push_toArray] at N9
    clear F8 N8 x0 x1 x2 x3 x4 x5 x6 x7 x8 x9
    iterate 2 walk1
    rename Fr _ _ _ _ => F10
    rename News _ _ _ _ => N10
    rw [hrest] at N10
    refine hQt1 _ ?_
    refine LoopEnd.intro F10 N10 (fun p hp => .tail _ (List.mem_append_right [_, _, _, _, _, _, _, _, _, _] (List.mem_append_right _ hp))) ?_
    refine ⟨fun y h1 => ?agr, rv ++ [.bytes (bytesL (rowL tot labs j)) t17], cr + 1, fun p hp => ?sub, ?rows⟩
    case agr =>
      dsimp only
      rw [if_neg h1, if_neg h1, hm3]
      rfl
    case sub =>
      rcases List.mem_append.mp (show p ∈ [_, _, _, _, _, _, _, _, _, _] ++ imm from hp) with hp | hp
      · exact .tail _ (List.mem_append_left _ hp)
      · exact .tail _ (List.mem_append_right [_, _, _, _, _, _, _, _, _, _] (List.mem_append_left _ hp))
    case rows =>
      rw [rowsL, List.range_succ, List.map_append, List.map_append]
      exact hrv.append (.cons _ _ .nil)
end Mine
end
section
theorem Mine.startLtList : True := by
  w_top off
  trivial
open PySem PySem.Spec PySem.Calls PyProof.Rows PySem.W
set_option maxRecDepth 100000
set_option maxHeartbeats 2000000
namespace Mine
noncomputable def lexLt : List Int → List Int → Bool
  | [], [] => false
  | [], _ :: _ => true
  | _ :: _, [] => false
  | a :: r, b :: t => if a = b then lexLt r t else decide (a < b)
open AutoSeq1 (wpAny_loadPart') in
open MeetsSeq MeetsSeq2 MeetsSeq3 in
theorem lt_loop (l b : Addr) (xs ys : List Value) (ns ms : List Int) (n n2 : Nat) (dd dd2 : Option Addr) (sl sl2 : Array (Option Value)) (hx : IntsAre xs ns) (hy : IntsAre ys ms) (k : Nat) :
    ∀ i : Nat, ns.length - i = k → i ≤ ns.length → i ≤ ms.length → Meets (Builtin.«list.__eq__.loop» ⟨[.ref l, .ref b, rawInt i, rawInt 0], []⟩)
      (fun A R s => s.heap.get? l = some { cls := .type "list", dict := dd, data := .seq xs.toArray n, slots := sl } ∧ s.heap.get? b = some { cls := .type "list", dict := dd2, data := .seq ys.toArray n2, slots := sl2 } ∧
        R (.ok (.ret (.bool (lexLt (ns.drop i) (ms.drop i))))) s) := by
  induction k with
  | zero =>
    intro i hk hi1 hi2 prog w A R s h
    obtain ⟨hp, g, d, tk, os⟩ := s; obtain ⟨hl, hb, h⟩ := h
    wp_walk using wpAny_loadPart' hl, wpAny_loadPart' hb
    have hxl := hx.length
    have hyl := hy.length
    have h1 : xs.toArray[((i : Nat) : Int).toNat]? = none := by simp; lia
    rw [h1]
    wp_walk using wpAny_loadPart' hl, wpAny_loadPart' hb
    show R (.ok (.ret (.bool (decide (xs.toArray.size < ys.toArray.size))))) _
    have e1 : ns.drop i = [] := by simp; lia
    rw [e1] at h
    have e2 : decide (xs.toArray.size < ys.toArray.size) = lexLt [] (ms.drop i) := by
      rw [List.size_toArray, List.size_toArray, hxl, hyl]
      cases e : ms.drop i with
      | nil =>
        have : ms.length ≤ i := by simpa using e
        simp [lexLt]; lia
      | cons q r =>
        have : i < ms.length := by
          apply Decidable.byContradiction
          intro hc
          rw [List.drop_of_length_le (by lia)] at e
          cases e
        simp [lexLt]; lia
    rw [e2]
    exact h
  | succ k ih =>
    intro i hk hi1 hi2 prog w A R s h
    obtain ⟨hp, g, d, tk, os⟩ := s; obtain ⟨hl, hb, h⟩ := h
    wp_walk using wpAny_loadPart' hl, wpAny_loadPart' hb
    have hxl := hx.length
    have hyl := hy.length
    have hlt : i < xs.length := by lia
    have hq1 : xs.toArray[((i : Nat) : Int).toNat]? = some xs[i] := by simp [hlt]
    obtain ⟨a, t1, ha, ha2⟩ := ints_at hx (List.getElem?_eq_getElem hlt)
    have hd1 : ns.drop i = a :: ns.drop (i + 1) := by
      rw [List.drop_eq_getElem_cons (by lia)]
      have := List.getElem?_eq_getElem (l := ns) (i := i) (by lia)
      rw [this] at ha2
      cases ha2
      rfl
    rw [hq1]
    by_cases hlt2 : i < ys.length
    · have hq2 : ys.toArray[((i : Nat) : Int).toNat]? = some ys[i] := by simp [hlt2]
      obtain ⟨c, t2, hc, hc2⟩ := ints_at hy (List.getElem?_eq_getElem hlt2)
      have hd2 : ms.drop i = c :: ms.drop (i + 1) := by
        rw [List.drop_eq_getElem_cons (by lia)]
        have := List.getElem?_eq_getElem (l := ms) (i := i) (by lia)
        rw [this] at hc2
        cases hc2
        rfl
      rw [hq2]
      rw [hd1, hd2, lexLt] at h
      have hcc : ((i : Int) + 1) = ((i + 1 : Nat) : Int) := by push_cast; rfl
      rw [ha, hc]
      refine wpAny_bind (wpAny_eqBool_int ?_)
      by_cases hac : a = c
      · rw [if_pos hac] at h
        have hbt : (a == c) = true := by simpa using hac
        rw [hbt]
        wp_walk
        rw [hcc]
        exact ⟨plainId_quiet plain_eq_loop _, codeAny_builtin entry_eq_loop (by
          rw [Around.under_plainId plain_eq_loop _]
          exact ih (i + 1) (by lia) (by lia) (by lia) prog w A R _ ⟨hl, hb, h⟩)⟩
      · rw [if_neg hac] at h
        have hbf : (a == c) = false := by simpa using hac
        rw [hbf]
        wp_walk using wpAny_loadPart' hl, wpAny_loadPart' hb
        rw [hq1, hq2, ha, hc]
        refine wpAny_bind (lt_int ?_)
        exact wpAny_pure h
    · have hq2 : ys.toArray[((i : Nat) : Int).toNat]? = none := by simp; lia
      rw [hq2]
      wp_walk using wpAny_loadPart' hl, wpAny_loadPart' hb
      show R (.ok (.ret (.bool (decide (xs.toArray.size < ys.toArray.size))))) _
      have e1 : ms.drop i = [] := by simp; lia
      rw [e1, hd1, lexLt] at h
      have e2 : decide (xs.toArray.size < ys.toArray.size) = false := by
        rw [List.size_toArray, List.size_toArray]
        simp; lia
      rw [e2]
      exact h
open AutoSeq1 (wpAny_loadPart') in
open MeetsSeq MeetsSeq2 MeetsSeq3 in
theorem list_lt (l b : Addr) (xs ys : List Value) (ns ms : List Int) (n n2 : Nat) (dd dd2 : Option Addr) (sl sl2 : Array (Option Value)) (hx : IntsAre xs ns) (hy : IntsAre ys ms) :
    Meets (Builtin.«list.__lt__» ⟨[.ref l, .ref b], []⟩)
      (fun A R s => s.heap.get? l = some { cls := .type "list", dict := dd, data := .seq xs.toArray n, slots := sl } ∧ s.heap.get? b = some { cls := .type "list", dict := dd2, data := .seq ys.toArray n2, slots := sl2 } ∧
        R (.ok (.ret (.bool (lexLt ns ms)))) s) := by
  intro prog w A R s h
  obtain ⟨hp, g, d, tk, os⟩ := s; obtain ⟨hl, hb, h⟩ := h
  have f3 := AutoSeq1.sub_list_list
  wp_walk using wpAny_loadPart' hl, wpAny_loadPart' hb
  exact ⟨plainId_quiet plain_eq_loop _, codeAny_builtin entry_eq_loop (by
    rw [Around.under_plainId plain_eq_loop _]
    exact lt_loop l b xs ys ns ms n n2 dd dd2 sl sl2 hx hy _ 0 rfl (by lia) (by lia) prog w A R _ ⟨hl, hb, by simpa using h⟩)⟩
section
variable {prog : Program} {w : World} {A : Around} {E : Value → Shared → Prop} {s : Shared} {a b : Addr} {xs ys : List Value} {ns ms : List Int}
theorem keyLt_lists {Q : Bool → Shared → Prop} (ha : s.heap.IsList a xs.toArray) (hb : s.heap.IsList b ys.toArray) (hx : IntsAre xs ns) (hy : IntsAre ys ms) (hu : A.units < cLine) (h : Q (lexLt ns ms) s) :
    wpAny (model prog w) A (keyLt' oneType' (.ref a) (.ref b)) Q E s := by
  rw [keyLt'_oneType, oneLt'_eq]
  simp only [if_true]
  refine wpAny_bind (wpAny_cRoomFor hu ?_)
  refine wpAny_bind (wpAny_callSpecialIfBound?_slot ha.typeIs F.slot_list_lt ?_)
  obtain ⟨⟨c1, d1, dt1, sl1⟩, e1, rfl, n1, rfl⟩ := ha
  obtain ⟨⟨c2, d2, dt2, sl2⟩, e2, rfl, n2, rfl⟩ := hb
  refine call_meets F.slot_list_lt ⟨_, e1, rfl⟩ F.entry_list_lt (F.args_list_lt_2 _ _) (list_lt a b xs ys ns ms _ _ _ _ _ _ hx hy) ⟨e1, e2, ?_⟩
  exact wpAny_truthy_bool h
end
/-- the run of a sort by a pure comparison -/
noncomputable def kasRun (lt : Nat → Nat → Bool) (n : Nat) {α : Type} : KasT α → Option α
  | .ret a => some a
  | .ask i j k => if i < n ∧ j < n then kasRun lt n (k (lt i j)) else none
theorem kasRun_wp {lt : Nat → Nat → Bool} {n : Nat} {α : Type} {cmp : Nat → Nat → (Bool → Shared → Prop) → Shared → Prop} {s : Shared} (hcmp : ∀ i j, i < n → j < n → ∀ C : Bool → Shared → Prop, C (lt i j) s → cmp i j C s) {Q : α → Shared → Prop} :
    ∀ (t : KasT α) {a : α}, kasRun lt n t = some a → Q a s → t.kasWp cmp Q s
  | .ret b, a, h, q => by cases h; exact q
  | .ask i j k, a, h, q => by
    unfold kasRun at h
    split at h
    · rename_i hij
      exact hcmp i j hij.1 hij.2 _ (kasRun_wp hcmp (k (lt i j)) h q)
    · cases h
end Mine
end
section
theorem Mine.startSortL : True := by
  w_top off
  trivial
open PySem PySem.Spec PySem.Calls PyProof.Rows PySem.W
set_option maxRecDepth 100000
set_option maxHeartbeats 2000000
namespace Mine
theorem looks_list {M : Model} {h : Heap} {a : Addr} {its : Array Value} (hl : h.IsList a its) : Looks M h (typeOf (.ref a)) (.type "list") := by
  obtain ⟨⟨c1, d1, dt1, sl1⟩, e1, rfl, n1, rfl⟩ := hl
  exact (Looks.ld e1).andThen .now
section
variable {prog : Program} {w : World} {A : Around} {E : Value → Shared → Prop} {s : Shared} {h₀ : Heap} {L l : Addr} {m : Str → Option Value} {news : List (Addr × Obj)} {vs : List Value} {ns : List (List Int)}
theorem sorted_lists {perm : Array Nat} {Q : Value → Shared → Prop} (F : Fr h₀ L s.heap m) (N : News h₀ L s.heap news) (hl : s.heap.IsList l vs.toArray) (hv : F2 (IL news) vs ns) (h2 : 2 ≤ ns.length) (h64 : ns.length < 64) (hu : A.in1.in1.units < cLine)
    (hr : kasRun (fun i j => lexLt (ns.getD i []) (ns.getD j [])) ns.length (kas_sort ns.length) = some perm)
    (k : ∀ D h' c, Fr h₀ L h' m → News h₀ L h' ((D, PySem.W.listOf (perm.toList.map fun i => vs.getD i Value.none).toArray c) :: news) → (∀ q ∈ news, q.1 < D) → Q (.ref D) { s with heap := h' }) :
    wpAny (model prog w) A (call (.builtin "sorted") [.ref l]) Q E s := by
  have hlen := hv.length
  refine kas_sorted (T := .type "list") F N hl (by lia) (by lia) (fun h _ N' v hvm => ?_) (by decide) fun D e1 h' F' N' hD => ?_
  · obtain ⟨i, hi, rfl⟩ := List.getElem_of_mem hvm
    obtain ⟨b, _, a, us, c, e, hm, _⟩ := hv.get' (List.getElem?_eq_getElem hi)
    rw [e]
    exact looks_list (its := us.toArray) ⟨_, (N' _ hm).1, rfl, _, rfl⟩
  · rw [hlen]
    refine kasRun_wp (lt := fun i j => lexLt (ns.getD i []) (ns.getD j [])) (n := ns.length) (fun i j hi hj C hC => ?_) _ hr ?_
    · obtain ⟨v1, hv1, a1, us1, c1, rfl, hm1, hi1⟩ := hv.get (List.getElem?_eq_getElem hi)
      obtain ⟨v2, hv2, a2, us2, c2, rfl, hm2, hi2⟩ := hv.get (List.getElem?_eq_getElem hj)
      unfold kas_ask
      rw [List.getD_eq_getElem?_getD, List.getD_eq_getElem?_getD, hv1, hv2]
      refine keyLt_lists (ns := ns[i]) (ms := ns[j]) ⟨_, (N' _ (.tail _ hm1)).1, rfl, _, rfl⟩ ⟨_, (N' _ (.tail _ hm2)).1, rfl, _, rfl⟩ hi1 hi2 hu ?_
      simp only [List.getD_eq_getElem?_getD, List.getElem?_eq_getElem hi, List.getElem?_eq_getElem hj, Option.getD_some] at hC
      exact hC
    · refine KasFin.intro F' N' (.head fun q hq => Nat.ne_of_lt (hD q hq)) fun h9 c9 F9 N9 => ?_
      exact k D h9 c9 F9 N9 hD
end
end Mine
end
section
theorem Mine.startSegE0 : True := by
  w_top off
  trivial
open PySem PySem.Spec PySem.Calls PyProof.Rows PySem.W
namespace Mine
/-- the paths -/
noncomputable def pathsL (H : List (List Int)) (M : Nat) : List (List Int) := (List.range M).map fun i => H.getD i [] ++ [(i : Int)]
end Mine
end
section
theorem Mine.startMathOut : True := by
  w_top off
  trivial
open PySem PySem.Spec PySem.Calls PyProof.Rows PySem.W
set_option maxRecDepth 100000
namespace Mine
/-- a row: dots, then a body -/
noncomputable abbrev Seg := Nat × Nat
noncomputable def segB1 (body : Nat → List UInt8) (x : Seg) : List UInt8 := List.replicate x.1 46 ++ body x.2
noncomputable def segS (body : Nat → List UInt8) (l : List Seg) : List UInt8 := (l.map (segB1 body)).flatten
/-- a body: no dot at its head, one line end, at its end -/
structure Body (b : List UInt8) : Prop where
  split : ∃ c r, b = c :: r ++ [10] ∧ c ≠ 46 ∧ c ≠ 10 ∧ ∀ x ∈ r, x ≠ 10
theorem quo_false_body : ∀ (r : List UInt8) (t : List UInt8), (∀ x ∈ r, x ≠ 10) → quo false (r ++ 10 :: t) = r ++ 10 :: quo true t
  | [], t, _ => by simp [quo]
  | c :: r, t, h => by
    have hc : (c == 10) = false := beq_false_of_ne (h c (.head _))
    rw [List.cons_append, quo_cons, if_neg (by simp), hc, quo_false_body r t fun x hx => h x (.tail _ hx)]
    rfl
theorem quo_dots : ∀ (d : Nat) (t : List UInt8), quo false (List.replicate d 46 ++ t) = List.replicate d 46 ++ quo false t
  | 0, t => rfl
  | d + 1, t => by
    rw [List.replicate_succ, List.cons_append, quo_cons, if_neg (by simp)]
    rw [show ((46 : UInt8) == 10) = false by decide, quo_dots d t]
    rfl
theorem quo_seg {body : Nat → List UInt8} (d k : Nat) (hb : Body (body k)) (t : List UInt8) : quo true (segB1 body (d + 1, k) ++ t) = segB1 body (d + 2, k) ++ quo true t := by
  obtain ⟨c, r, e, h1, h2, h3⟩ := hb.split
  simp only [segB1, e]
  rw [List.replicate_succ, List.cons_append, List.cons_append, quo_cons, if_pos ⟨rfl, rfl⟩, List.append_assoc, quo_dots]
  have : c :: r ++ [10] ++ t = (c :: r) ++ 10 :: t := by simp
  rw [this, quo_false_body (c :: r) t fun x hx => by
    rcases List.mem_cons.mp hx with rfl | hx
    · exact h2
    · exact h3 x hx]
  rw [List.replicate_succ, List.replicate_succ]
  simp
theorem quo_segS {body : Nat → List UInt8} (hb : ∀ k, Body (body k)) : ∀ (l : List Seg), (∀ x ∈ l, 1 ≤ x.1) → quo true (segS body l) = segS body (l.map fun x => (x.1 + 1, x.2))
  | [], _ => rfl
  | (0, k) :: l, h => absurd (h _ (.head _)) (by simp)
  | (d + 1, k) :: l, h => by
    have ih := quo_segS hb l fun x hx => h x (.tail _ hx)
    simp only [segS, List.map_cons, List.flatten_cons] at ih ⊢
    rw [quo_seg d k (hb k), ih]
noncomputable def bump (l : List Seg) : List Seg := l.map fun x => (x.1 + 1, x.2)
/-- the same work on rows of numbers -/
noncomputable def kidsS (p : Int) : List (List Seg) → List Int → List Seg
  | b :: ms, q :: ps => if q = p then b ++ kidsS p ms ps else kidsS p ms ps
  | _, _ => []
noncomputable def mailsS (n : Nat) (pars : List Int) : Nat → List (List Seg)
  | 0 => (List.range n).map fun k => [(1, k)]
  | i + 1 =>
    let ms := mailsS n pars i
    let p := n - 1 - i
    ms.set p ((1, p) :: bump (kidsS (p : Int) (ms.drop (p + 1)) (pars.drop (p + 1))))
noncomputable def outlineS (n : Nat) (pars : List Int) : List Seg := bump (kidsS (-1) (mailsS n pars n) pars)
noncomputable def Pos1 (l : List Seg) : Prop := ∀ x ∈ l, 1 ≤ x.1
theorem kidsS_pos {p : Int} : ∀ (ms : List (List Seg)) (ps : List Int), (∀ b ∈ ms, Pos1 b) → Pos1 (kidsS p ms ps)
  | [], _, _ => by simp [kidsS, Pos1]
  | _ :: _, [], _ => by simp [kidsS, Pos1]
  | b :: ms, q :: ps, h => by
    have ih := kidsS_pos (p := p) ms ps fun b hb => h b (.tail _ hb)
    simp only [kidsS]
    split
    · intro x hx
      rcases List.mem_append.mp hx with hx | hx
      · exact h b (.head _) x hx
      · exact ih x hx
    · exact ih
theorem mailsS_pos (n : Nat) (ps : List Int) : ∀ i, ∀ b ∈ mailsS n ps i, Pos1 b
  | 0, b, h => by
    simp only [mailsS, List.mem_map] at h
    obtain ⟨k, _, rfl⟩ := h
    intro x hx
    rw [List.mem_singleton.mp hx]
    exact Nat.le_refl _
  | i + 1, b, h => by
    have ih := mailsS_pos n ps i
    simp only [mailsS] at h
    rcases List.mem_or_eq_of_mem_set h with h | rfl
    · exact ih b h
    · intro x hx
      rcases List.mem_cons.mp hx with rfl | hx
      · exact Nat.le_refl _
      · simp only [bump, List.mem_map] at hx
        obtain ⟨y, _, rfl⟩ := hx
        exact Nat.le_add_left _ _
theorem segS_app (body : Nat → List UInt8) (l m : List Seg) : segS body (l ++ m) = segS body l ++ segS body m := by simp [segS]
theorem kids_S {body : Nat → List UInt8} {p : Int} : ∀ (ms : List (List Seg)) (ps : List Int), flatB (kids p (ms.map fun l => (segS body l).toArray) ps) = segS body (kidsS p ms ps)
  | [], _ => rfl
  | _ :: _, [] => rfl
  | b :: ms, q :: ps => by
    have ih := kids_S (body := body) (p := p) ms ps
    simp only [List.map_cons, kids, kidsS]
    split
    · rw [flatB_cons, segS_app, ih]
    · exact ih
theorem mails_S {body : Nat → List UInt8} (hb : ∀ k, Body (body k)) {rows : List (Array UInt8)} {n : Nat} (hr : rows = (List.range n).map fun k => (segB1 body (1, k)).toArray) (ps : List Int) : ∀ i, i ≤ n → mailsAt rows ps i = (mailsS n ps i).map fun l => (segS body l).toArray
  | 0, _ => by
    simp only [mailsAt, mailsS, hr, List.map_map]
    refine List.map_congr_left fun k _ => ?_
    simp [segS]
  | i + 1, hi => by
    have ih := mails_S hb hr ps i (by omega)
    have hl : rows.length = n := by rw [hr]; simp
    simp only [mailsAt, mailsS, ih, hl]
    rw [List.map_set, ← List.map_drop, kids_S, quo_segS hb _ (kidsS_pos _ _ fun b hb' => mailsS_pos n ps i b (List.mem_of_mem_drop hb'))]
    congr 1
    have hg : rows.getD (n - 1 - i) #[] = (segB1 body (1, n - 1 - i)).toArray := by
      rw [hr, List.getD_eq_getElem?_getD, List.getElem?_map, List.getElem?_range (by omega)]
      rfl
    rw [hg]
    simp [segS, bump]
theorem outline_S {body : Nat → List UInt8} (hb : ∀ k, Body (body k)) {rows : List (Array UInt8)} {n : Nat} (hr : rows = (List.range n).map fun k => (segB1 body (1, k)).toArray) (ps : List Int) : outlineB rows ps = segS body (outlineS n ps) := by
  have hl : rows.length = n := by rw [hr]; simp
  unfold outlineB outlineS
  rw [hl, mails_S hb hr ps n (Nat.le_refl _), kids_S, quo_segS hb _ (kidsS_pos _ _ fun b hb' => mailsS_pos n ps n b hb')]
  rfl
end Mine
end
section
theorem Mine.startMathVec : True := by
  w_top off
  trivial
open PySem PySem.Spec PySem.Calls PyProof.Rows PySem.W
set_option maxRecDepth 100000
namespace Mine
noncomputable def vecs : Nat → List (List Int)
  | 0 => [[]]
  | k + 1 => (vecs k).flatMap fun v => (List.range (k + 1)).map fun q : Nat => v ++ [(q : Int) - 1]
theorem parsL_vecs (ns : List Int) : ∀ k, parsL ns k ∈ vecs k
  | 0 => by simp [parsL, vecs]
  | k + 1 => by
    have ih := parsL_vecs ns k
    rw [parsL_succ]
    simp only [vecs, List.mem_flatMap, List.mem_map]
    refine ⟨_, ih, (parOf ns k + 1).toNat, ?_, ?_⟩
    · have := parOf_bounds ns k
      rw [List.mem_range]
      omega
    · have := parOf_bounds ns k
      congr 2
      omega
noncomputable def okVec (n : Nat) (ps : List Int) : Bool :=
  match kasRun (fun i j => lexLt ((pathsL (holdsL ps n) n).getD i []) ((pathsL (holdsL ps n) n).getD j [])) n (kas_sort n) with
  | some perm => perm.size == n && perm.toList.all (fun i => decide (i < n)) && (List.range n).all (fun k => perm.toList.count k == 1) && (outlineS n ps == perm.toList.map fun i => (((holdsL ps n).getD i []).length + 2, i))
  | none => false
set_option maxHeartbeats 0 in
theorem okVec5 : (vecs 5).all (okVec 5) = true := by decide +kernel

/-- the vectors of six, by their last number: six steps, each small -/
noncomputable def okLast (q : Int) : Bool := (vecs 5).all fun v => okVec 6 (v ++ [q])
set_option maxHeartbeats 0 in
theorem okLastA : okLast (-1) = true := by decide +kernel
set_option maxHeartbeats 0 in
theorem okLastB : okLast 0 = true := by decide +kernel
set_option maxHeartbeats 0 in
theorem okLastC : okLast 1 = true := by decide +kernel
set_option maxHeartbeats 0 in
theorem okLastD : okLast 2 = true := by decide +kernel
set_option maxHeartbeats 0 in
theorem okLastE : okLast 3 = true := by decide +kernel
set_option maxHeartbeats 0 in
theorem okLastF : okLast 4 = true := by decide +kernel
theorem okVec6 (ns : List Int) : okVec 6 (parsL ns 6) = true := by
  have hv := parsL_vecs ns 5
  have hb := parOf_bounds ns 5
  rw [parsL_succ]
  have hq : okLast (parOf ns 5) = true := by
    rcases (by lia : parOf ns 5 = -1 ∨ parOf ns 5 = 0 ∨ parOf ns 5 = 1 ∨ parOf ns 5 = 2 ∨ parOf ns 5 = 3 ∨ parOf ns 5 = 4) with e | e | e | e | e | e <;> rw [e]
    · exact okLastA
    · exact okLastB
    · exact okLastC
    · exact okLastD
    · exact okLastE
    · exact okLastF
  exact List.all_eq_true.mp hq _ hv
end Mine
end
section
theorem Mine.startSegE : True := by
  w_top off
  trivial
open PySem PySem.Spec PySem.Calls PyProof.Rows PySem.W
set_option maxRecDepth 100000
set_option maxHeartbeats 8000000
namespace Mine
noncomputable def mailRow (H : List (List Int)) (rows : List (Array UInt8)) (i : Nat) : Array UInt8 := (List.replicate ((H.getD i []).length + 2) 46 ++ (rows.getD i #[]).toList.drop 1).toArray
theorem lexMem {α : Type} {a : α} {X im2 imm : List α} : ∀ p ∈ X ++ (a :: im2 ++ imm), p ∈ a :: (X ++ (im2 ++ imm)) := fun p hp => by
  rcases List.mem_append.mp hp with q | q
  · exact .tail _ (List.mem_append_left _ q)
  · rcases List.mem_cons.mp q with rfl | q
    · exact .head _
    · exact .tail _ (List.mem_append_right _ q)

theorem dots_flat : ∀ n, (List.replicate n [(46 : UInt8)]).flatten = List.replicate n 46
  | 0 => rfl
  | n + 1 => by rw [List.replicate_succ, List.flatten_cons, dots_flat n, List.replicate_succ]; rfl
theorem len_two (n : Nat) : (((n + 1 : Nat) : Int) + 1).toNat = n + 2 := by lia
theorem last_path {pus : List Value} {hh : List Int} {q : Nat} (h : IntsAre pus (hh ++ [(q : Int)])) : ∃ t, pus[hh.length]? = some (.int (q : Int) t) := by
  have hl : hh.length < pus.length := by rw [h.length, List.length_append, List.length_singleton]; lia
  obtain ⟨a, t, e, e2⟩ := ints_at h (List.getElem?_eq_getElem hl)
  rw [List.getElem?_append_right (Nat.le_refl _), Nat.sub_self] at e2
  have e3 : (q : Int) = a := by simpa using e2
  exact ⟨t, by rw [e3, List.getElem?_eq_getElem hl, e]⟩
theorem bInts_inj {a b : Array UInt8} (h : KBw.bInts a = KBw.bInts b) : a = b := by
  unfold KBw.bInts at h
  apply Array.toList_inj.mp
  generalize a.toList = l at h
  generalize b.toList = m at h
  induction l generalizing m with
  | nil => cases m with
    | nil => rfl
    | cons y m => simp at h
  | cons x l ih => cases m with
    | nil => simp at h
    | cons y m =>
      simp only [List.map_cons, List.cons.injEq] at h
      have hx : x.toNat = y.toNat := by lia
      rw [UInt8.toNat_inj.mp hx, ih m h.2]
theorem picked_one {b : Array UInt8} (h : KBw.bInts (KBy.picked b (some 1) none) = ((KBw.bInts b).drop ((some (1 : Int)).elim 0 (clipAt (KBw.bInts b).length))).take ((none : Option Int).elim (KBw.bInts b).length (clipAt (KBw.bInts b).length) - (some (1 : Int)).elim 0 (clipAt (KBw.bInts b).length))) : KBy.picked b (some 1) none = (b.toList.drop 1).toArray := by
  apply bInts_inj
  rw [h]
  have e1 : (some (1 : Int)).elim 0 (clipAt (KBw.bInts b).length) = min 1 (KBw.bInts b).length := by
    show clipAt _ _ = _
    unfold clipAt
    simp
    lia
  rw [e1]
  have e2 : (none : Option Int).elim (KBw.bInts b).length (clipAt (KBw.bInts b).length) = (KBw.bInts b).length := rfl
  rw [e2]
  rw [List.take_of_length_le (by simp)]
  have e3 : KBw.bInts (b.toList.drop 1).toArray = (KBw.bInts b).drop 1 := by
    unfold KBw.bInts
    simp
  rw [e3]
  by_cases hz : (KBw.bInts b).length = 0
  · rw [List.length_eq_zero_iff.mp hz]; rfl
  · rw [Nat.min_eq_left (by lia)]
theorem segE : ∀ {w : World} {L fa : Addr} {cd : Value} {R : Flow → Shared → Prop} {E : Value → Shared → Prop} {s : Shared} {h₀ : Heap} {p : Program} {loose : List Str} {mean : ExcName → Option Value} {mg mb : Str → Option Value} {m : Str → Option Value}
    {M : Nat} {tM tT : Tok} {tot : Int} {wA pA lA hA dA : Addr} {oR oH oD : Obj} {t80 t73 : Obj} {rv pv lv hv dv : List Value} {cr cp cl ch cdd : Nat} {imm : List (Addr × Obj)} {H : List (List Int)} {rows : List (Array UInt8)} {ps : List Int} {perm : Array Nat},
    ∀ (X : (Mine.hd.heap_39 w.params).In h₀) (T : Top p loose mean mg mb h₀)
    (F : Fr h₀ L s.heap m) (hm : Has m [(Str.ofString "many", .int M tM), (Str.ofString "total", .int tot tT), (Str.ofString "parents", .ref pA), (Str.ofString "labels", .ref lA)])
    (N : News h₀ L s.heap ((wA, PySem.W.listOf (List.toArray rv) cr) :: (hA, PySem.W.listOf (List.toArray hv) ch) :: (lA, PySem.W.listOf (List.toArray lv) cl) :: (dA, PySem.W.listOf (List.toArray dv) cdd) :: (pA, PySem.W.listOf (List.toArray pv) cp) :: (L + 1 + 1 + 1, oR) :: (L + 1 + 1, oH) :: (L + 1, oD) :: (80, t80) :: (73, t73) :: imm))
    (dR : oR.data = .cell (some (.ref wA))) (dH : oH.data = .cell (some (.ref hA))) (dD : oD.data = .cell (some (.ref dA)))
    (him : ∀ p ∈ imm, isLst p.2) (n80 : notIt t80 = true) (n73 : notIt t73 = true)
    (h2M : 2 ≤ M) (hM : M ≤ 6) (hrv : BytesAre rv rows) (hrl : rows.length = M) (hr16 : ∀ b ∈ rows, b.size ≤ 16) (hpv : IntsAre pv ps) (hpl : ps.length = M)
    (hdv : F2 (IL imm) dv H) (hHl : H.length = M) (hH6 : ∀ h ∈ H, h.length ≤ 6)
    (hrun : kasRun (fun i j => lexLt ((pathsL H M).getD i []) ((pathsL H M).getD j [])) M (kas_sort M) = some perm) (hp6 : perm.size ≤ 6) (hpM : ∀ i ∈ perm.toList, i < M)
    (hout : (outlineB rows ps).length ≤ 16777216) (heq : outlineB rows ps = flatB (perm.toList.map (mailRow H rows)))
    (k : ∀ h tk m tM2, Fr h₀ L h m → Has m [(Str.ofString "many", .int M tM), (Str.ofString "total", .int tot tT), (Str.ofString "mail", .bytes (outlineB rows ps).toArray tM2)] →
      News h₀ L h ((wA, PySem.W.listOf (List.toArray rv) cr) :: (hA, PySem.W.listOf (List.toArray hv) ch) :: (lA, PySem.W.listOf (List.toArray lv) cl) :: (dA, PySem.W.listOf (List.toArray dv) cdd) :: (pA, PySem.W.listOf (List.toArray pv) cp) :: (L + 1 + 1 + 1, oR) :: (L + 1 + 1, oH) :: (L + 1, oD) :: (80, t80) :: (73, t73) :: imm) →
      wpAny (model PySem.Challenge.rw_xe0036_01.row.prog w) (lawA L fa cd) (execs (lawDef.1.drop 16) (lawE L fa cd)) R E { s with heap := h, toks := tk }),
    wpAny (model PySem.Challenge.rw_xe0036_01.row.prog w) (lawA L fa cd) (execs (lawDef.1.drop 13) (lawE L fa cd)) R E s := by
  k_fill
  intro w L fa cd R E s h₀ p loose mean mg mb m M tM tT tot wA pA lA hA dA oR oH oD t80 t73 rv pv lv hv dv cr cp cl ch cdd imm H rows ps perm X T F hm N dR dH dD him n80 n73 h2M hM hrv hrl hr16 hpv hpl hdv hHl hH6 hrun hp6 hpM hout heq k
  conv at k in (List.drop _ _) => whnf
  conv in (List.drop _ _) => whnf
  unfold lawA lawE at k ⊢
  conv at k in lawDef.2 => whnf
  conv at k in lawDef.2 => whnf
  conv in lawDef.2 => whnf
  conv in lawDef.2 => whnf
  have hm0 := hm.nf
  rw [hm0] at F
  dsimp only [chain] at F
  have hTR : TopRead p loose mg mb h₀ := topRead_of T
  have hpvQ : True → IntsAre pv ps := fun _ => hpv
  iterate 10 walk1
  rename Fr _ _ _ _ => F6
  rename News _ _ _ _ => N6
  refine ⟨X.keeps F6.keep, ?_⟩
  refine outline_spec (p := p) (loose := loose) (mean := mean) (mg := mg) (mb := mb) (vr := rv) (vq := pv) (rows := rows) (pars := ps) ?c1 ?c2 ?c3 ?c4 ?c5 ?c6 ?c7 ?c8 ?c9 ?c10 ?c11 fun h7 tk7 t7 hs7 => ?_
  case c1 => exact X.keeps F6.keep
  case c2 => exact T.keeps F6.keep
  case c3 => exact ⟨_, (N6 _ mm0).1, rfl, _, rfl⟩
  case c4 => exact hrv
  case c5 => exact ⟨_, (N6 _ mm4).1, rfl, _, rfl⟩
  case c6 => exact hpvQ trivial
  case c7 => lia
  case c8 => lia
  case c9 => exact hr16
  case c10 => decide
  case c11 => decide
  have F7 := F6.keeps hs7
  have N7 := N6.grown hs7
  clear F6 N6
  skip
  iterate 8 walk1
  rename Fr _ _ _ _ => F8
  rename News _ _ _ _ => N8
  refine LCg.ListComp_U (F₀ := F8) (by with_unfolding_all rfl) (by decide) (by rfl) (by decide) (by rfl) ?_
  iterate 7 walk1
  rename IsRange _ _ _ _ _ _ _ _ => Rg
  rename Fr _ _ _ _ => F9
  rename News _ _ _ _ => N9
  have ⟨hrs, hrm⟩ := up_size (a := 0) (n := M) (b := (M : Int)) (by lia) (by lia) (by lia) (by lia) (by lia)
  refine LCg.CompSrc.range (by rfl) F9 N9 Rg hrm hrs (by rw [sizeLine_eq]; lia) ?_
  intro g2
  refine rest_J (fun j ys nw => ∃ im2, nw = (wA, PySem.W.listOf (List.toArray rv) cr) :: (hA, PySem.W.listOf (List.toArray hv) ch) :: (lA, PySem.W.listOf (List.toArray lv) cl) :: (dA, PySem.W.listOf (List.toArray dv) cdd) :: (pA, PySem.W.listOf (List.toArray pv) cp) :: (L + 1 + 1 + 1, oR) :: (L + 1 + 1, oH) :: (L + 1, oD) :: (80, t80) :: (73, t73) :: (im2 ++ imm) ∧ F2 (IL im2) ys ((List.range j).map fun i => H.getD i [] ++ [(i : Int)])) ⟨[], rfl, .nil⟩ ?turn ?fin
  case turn =>
    rintro j v I oI C oC D m₂ ys nw h10 tk10 E₁ hj ⟨t9, rfl⟩ ⟨im2, rfl, hys⟩ hC hx F₁ N₁ off ne
    refine comp_gen fun Qc1 hQc1 => ?_
    have off0 := off
    iterate 4 walk1
    have hHj : j < H.length := by rw [hHl]; exact hj
    obtain ⟨hh, hhh⟩ : ∃ hh, H[j]? = some hh := ⟨_, List.getElem?_eq_getElem hHj⟩
    have hhD : H.getD j [] = hh := by rw [List.getD_eq_getElem?_getD, hhh]; rfl
    obtain ⟨dvx, hdx, da, dus, dc, rfl, hdm, hdus⟩ := hdv.get hhh
    have e1 : (0 : Int) + (j : Int) = (j : Int) := by lia
    rw [e1]
    refine item_listL ⟨_, (N₁ _ mm6).1, rfl, _, rfl⟩ (by lia) (by lia) (by rw [Int.toNat_natCast]; exact hdx) ?_
    iterate 4 walk1
    rename Fr _ _ _ _ => F11
    rename News _ _ _ _ => N11
    rename Heap => h11
    have hlt11 := news_lt N11
    refine newList_N (by simp) F11 N11 (fun h12 F12 N12 => ?_)
    dsimp only at F12 N12 ⊢
    generalize h11.objs.size = n1 at *
    clear F11 N11
    have hlt12 := news_lt N12
    have hh6 := hH6 hh (List.mem_of_getElem? hhh)
    have hdl := hdus.length
    refine add_lists (vs := dus) (ws := [.int (0 + (j : Int)) t9]) F12 N12 ⟨_, (N12 _ (List.mem_append_right [_, _, _, _, _, _, _, _, _, _, _, _, _, _] (List.mem_append_right _ hdm))).1, rfl, _, rfl⟩ ⟨_, (N12 _ mm0).1, rfl, _, rfl⟩ (fun h13 F13 N13 => ?_) (by rw [sizeLine_eq, List.length_singleton]; lia)
    dsimp only at F13 N13 ⊢
    generalize h12.objs.size = n2 at *
    clear F12 N12
    have bI : @LT.lt Nat _ I n2 := hlt12 _ mm1
    have bC : @LT.lt Nat _ C n2 := hlt12 _ mm2
    have bD : @LT.lt Nat _ D n2 := hlt12 _ mm3
    refine hQc1 _ _ ?_
    refine LCg.CompEnd.intro F13 N13 ((wA, PySem.W.listOf (List.toArray rv) cr) :: (hA, PySem.W.listOf (List.toArray hv) ch) :: (lA, PySem.W.listOf (List.toArray lv) cl) :: (dA, PySem.W.listOf (List.toArray dv) cdd) :: (pA, PySem.W.listOf (List.toArray pv) cp) :: (L + 1 + 1 + 1, oR) :: (L + 1 + 1, oH) :: (L + 1, oD) :: (80, t80) :: (73, t73) :: (((n2, PySem.W.listOf (dus ++ [Value.int (0 + (j : Int)) t9]).toArray 0) :: im2) ++ imm)) (fun p hp => ?_) ?_ trivial ⟨(n2, PySem.W.listOf (dus ++ [Value.int (0 + (j : Int)) t9]).toArray 0) :: im2, rfl, ?_⟩
    · rcases List.mem_append.mp (show p ∈ [_, _, _, _, _, _, _, _, _, _, _, _, _] ++ _ from hp) with q | q
      · exact .tail _ (.tail _ (List.mem_append_left _ q))
      · rcases List.mem_cons.mp (show p ∈ _ :: (im2 ++ imm) from q) with rfl | q
        · exact .head _
        · exact .tail _ (.tail _ (List.mem_append_right [_, _, _, _, _, _, _, _, _, _, _, _, _] q))
    · refine LCg.Off3.of fun p hp => ?_
      rcases List.mem_append.mp (show p ∈ [_, _, _, _, _, _, _, _, _, _] ++ _ from hp) with q | q
      · exact LCg.Off3.mem off0 p (List.mem_append_left _ q)
      · rcases List.mem_cons.mp (show p ∈ _ :: (im2 ++ imm) from q) with rfl | q
        · exact ⟨Nat.ne_of_gt bI, Nat.ne_of_gt bC, Nat.ne_of_gt bD⟩
        · exact LCg.Off3.mem off0 p (List.mem_append_right [_, _, _, _, _, _, _, _, _, _] q)
    · rw [List.range_succ, List.map_append]
      refine (F2.mono (fun _ _ x => x.mono fun p hp => .tail _ hp) hys).append (.cons ⟨n2, dus ++ [.int (0 + (j : Int)) t9], 0, rfl, .head _, ?_⟩ .nil)
      show IntsAre _ (H.getD j [] ++ [(j : Int)])
      rw [hhD, e1]
      exact ints_app hdus (.cons _ _ .nil)
  case fin =>
    rintro ys nw ⟨im2, rfl, hys⟩
    unfold LCg.FinE
    intro D2 h14 tk14 F14 N14 off14
    have hys2 : F2 (IL ((D2, LCg.lst ys) :: (wA, PySem.W.listOf (List.toArray rv) cr) :: (hA, PySem.W.listOf (List.toArray hv) ch) :: (lA, PySem.W.listOf (List.toArray lv) cl) :: (dA, PySem.W.listOf (List.toArray dv) cdd) :: (pA, PySem.W.listOf (List.toArray pv) cp) :: (L + 1 + 1 + 1, oR) :: (L + 1 + 1, oH) :: (L + 1, oD) :: (80, t80) :: (73, t73) :: (im2 ++ imm))) ys (pathsL H M) :=
      F2.mono (fun _ _ x => x.mono fun p hp => List.mem_append_right [_, _, _, _, _, _, _, _, _, _, _] (List.mem_append_left _ hp)) hys
    have hys3 : F2 (IL (im2 ++ imm)) ys (pathsL H M) := F2.mono (fun _ _ x => x.mono fun p hp => List.mem_append_left _ hp) hys
    have hplen : (pathsL H M).length = M := by simp [pathsL]
    have hyl := hys2.length
    iterate 1 walk1
    rename Fr _ _ _ _ => F15
    rename News _ _ _ _ => N15
    refine sorted_lists (vs := ys) (ns := pathsL H M) (perm := perm) F15 N15 ⟨_, (N15 _ mm0).1, rfl, _, rfl⟩ hys2 (by lia) (by lia) (by show callerA.units + 3 + 1 + 1 < cLine; decide) (by rw [hplen]; exact hrun) (fun D3 h16 c16 F16 N16 hD3 => ?_)
    have N17 : News h₀ L h16 ((D3, PySem.W.listOf (perm.toList.map fun i => ys.getD i Value.none).toArray c16) :: (wA, PySem.W.listOf (List.toArray rv) cr) :: (hA, PySem.W.listOf (List.toArray hv) ch) :: (lA, PySem.W.listOf (List.toArray lv) cl) :: (dA, PySem.W.listOf (List.toArray dv) cdd) :: (pA, PySem.W.listOf (List.toArray pv) cp) :: (L + 1 + 1 + 1, oR) :: (L + 1 + 1, oH) :: (L + 1, oD) :: (80, t80) :: (73, t73) :: (im2 ++ imm)) := fun p hp => by
      rcases List.mem_cons.mp hp with rfl | hp
      · exact N16 _ (.head _)
      · exact N16 _ (.tail _ (.tail _ hp))
    clear N16
    iterate 8 walk1
    refine getMethod_join ?_
    iterate 2 walk1
    rename Fr _ _ _ _ => F18
    rename News _ _ _ _ => N18
    refine LCg.ListComp_U (F₀ := F18) (by with_unfolding_all rfl) (by decide) (by rfl) (by decide) (by rfl) ?_
    iterate 1 walk1
    rename Fr _ _ _ _ => F19
    rename News _ _ _ _ => N19
    refine LCg.CompSrc.ledger (by rfl) F19 N19 mm0 (by rw [List.size_toArray, List.length_map, Array.length_toList, sizeLine_eq]; lia) ?_
    intro g3
    obtain ⟨LED, hLED⟩ : ∃ LED, LED = (D3, PySem.W.listOf (perm.toList.map fun i => ys.getD i Value.none).toArray c16) :: (wA, PySem.W.listOf (List.toArray rv) cr) :: (hA, PySem.W.listOf (List.toArray hv) ch) :: (lA, PySem.W.listOf (List.toArray lv) cl) :: (dA, PySem.W.listOf (List.toArray dv) cdd) :: (pA, PySem.W.listOf (List.toArray pv) cp) :: (L + 1 + 1 + 1, oR) :: (L + 1 + 1, oH) :: (L + 1, oD) :: (80, t80) :: (73, t73) :: (im2 ++ imm) := ⟨_, rfl⟩
    refine rest_J (fun j zs nw => LED = nw ∧ BytesAre zs ((perm.toList.take j).map (mailRow H rows))) ⟨hLED, .nil⟩ ?turn2 ?fin2
    case turn2 =>
      rintro j v I oI C oC D m₂ zs nw h20 tk20 E₁ hj hjv ⟨rfl, hzs⟩ hC hx F₁ N₁ off ne
      refine comp_gen fun Qc1 hQc1 => ?_
      rw [hLED] at N₁ off
      have off0 := off
      have hjp : j < perm.toList.length := by
        have hj' := hj
        rw [List.size_toArray, List.length_map] at hj'
        exact hj'
      obtain ⟨q, hq⟩ : ∃ q, perm.toList[j]? = some q := ⟨_, List.getElem?_eq_getElem hjp⟩
      have hqM : q < M := hpM q (List.mem_of_getElem? hq)
      have hHq : q < H.length := by rw [hHl]; exact hqM
      obtain ⟨hh, hhh⟩ : ∃ hh, H[q]? = some hh := ⟨_, List.getElem?_eq_getElem hHq⟩
      have hhD : H.getD q [] = hh := by rw [List.getD_eq_getElem?_getD, hhh]; rfl
      have hh6 := hH6 hh (List.mem_of_getElem? hhh)
      have hpq : (pathsL H M)[q]? = some (hh ++ [(q : Int)]) := by
        rw [pathsL, List.getElem?_map, List.getElem?_range hqM]
        show some (H.getD q [] ++ [(q : Int)]) = _
        rw [hhD]
      obtain ⟨yv, hyv, pa, pus, pc, rfl, hpm, hpus⟩ := hys3.get hpq
      have hv2 : v = .ref pa := by
        have hv' := hjv
        rw [List.getElem?_toArray, List.getElem?_map, hq] at hv'
        have : some (ys.getD q Value.none) = some v := hv'
        rw [List.getD_eq_getElem?_getD, hyv] at this
        exact (Option.some.inj this).symm
      subst hv2
      have hpaN : (pa, PySem.W.listOf pus.toArray pc) ∈ (I, oI) :: (C, oC) :: (D, LCg.lst zs) :: (D3, PySem.W.listOf (perm.toList.map fun i => ys.getD i Value.none).toArray c16) :: (wA, PySem.W.listOf (List.toArray rv) cr) :: (hA, PySem.W.listOf (List.toArray hv) ch) :: (lA, PySem.W.listOf (List.toArray lv) cl) :: (dA, PySem.W.listOf (List.toArray dv) cdd) :: (pA, PySem.W.listOf (List.toArray pv) cp) :: (L + 1 + 1 + 1, oR) :: (L + 1 + 1, oH) :: (L + 1, oD) :: (80, t80) :: (73, t73) :: (im2 ++ imm) :=
        List.mem_append_right [_, _, _, _, _, _, _, _, _, _, _, _, _, _] hpm
      have hpul : pus.length = hh.length + 1 := by rw [hpus.length, List.length_append, List.length_singleton]
      iterate 5 walk1
      refine LCgL.ld_built (v := .builtin "len") F₁ X T (by kernel_rfl) (by boot_by_name) (by decide) ?_
      iterate 4 walk1
      rename Fr _ _ _ _ => F21
      rename News _ _ _ _ => N21
      refine len_list (items := pus.toArray) ⟨_, (N21 _ hpaN).1, rfl, _, rfl⟩ (by rw [List.size_toArray]; lia) ?_
      iterate 2 walk1
      rw [List.size_toArray, hpul]
      refine bytes_mul_any (b := [46]) (by simp) (by lia) (by lia) (by decide) (fun t22 tk22 => ?_)
      have hdots : ((List.replicate (((hh.length + 1 : Nat) : Int) + 1).toNat [46]).flatten).toArray = (List.replicate (hh.length + 2) (46 : UInt8)).toArray := by
        rw [len_two, dots_flat]
      rw [hdots]
      iterate 8 walk1
      rename Fr _ _ _ _ => F23
      rename News _ _ _ _ => N23
      have hpL : Heap.IsList _ pa pus.toArray := ⟨_, (N23 _ hpaN).1, rfl, _, rfl⟩
      obtain ⟨tq, htq⟩ := last_path hpus
      refine tail_any hpL.typeIs slot_list_getitem.lookup (wpAny_getItem_list_neg (x := .int (q : Int) tq) hpL (by decide) (by rw [List.size_toArray, hpul]; lia) (by decide) (by rw [List.size_toArray, hpul, List.getElem?_toArray, show (-1 + ((hh.length + 1 : Nat) : Int)).toNat = hh.length by lia]; exact htq) ?_) (by with_unfolding_all rfl)
      obtain ⟨rb, hrb⟩ : ∃ rb, rows[q]? = some rb := ⟨_, List.getElem?_eq_getElem (by rw [hrl]; exact hqM)⟩
      have hrbD : rows.getD q #[] = rb := by rw [List.getD_eq_getElem?_getD, hrb]; rfl
      obtain ⟨tr, htr⟩ := hrv.get q rb hrb
      refine item_listL ⟨_, (N23 _ mm4).1, rfl, _, rfl⟩ (by lia) (by lia) (by rw [Int.toNat_natCast]; exact htr) ?_
      iterate 6 walk1
      rename Fr _ _ _ _ => F24
      rename News _ _ _ _ => N24
      refine KBc.slice_K (lo := some 1) (hi := none) (ks := KBw.bInts rb) F24 N24 rfl (.int _ _) .none (by rw [KBw.ints_length]; have := hr16 rb (List.mem_of_getElem? hrb); lia) (fun h25 t25 k25 F25 N25 hpk => ?_)
      rw [picked_one hpk]
      have hrb16 := hr16 rb (List.mem_of_getElem? hrb)
      refine KBy.add_bytes (by simp only [List.size_toArray, List.length_replicate, List.length_drop, Array.length_toList]; lia) (fun t26 k26 => ?_)
      refine hQc1 _ _ ?_
      refine LCg.CompEnd.intro F25 N25 _ (fun p hp => hp) off0 (.inr ⟨_, mm0, rfl, _, rfl⟩) ⟨hLED, ?_⟩
      rw [List.take_add_one, hq, List.map_append]
      refine hzs.append ?_
      have hmr : mailRow H rows q = (List.replicate (hh.length + 2) (46 : UInt8)).toArray ++ (List.drop 1 rb.toList).toArray := by
        rw [mailRow, hhD, hrbD, List.append_toArray]
      show BytesAre _ [mailRow H rows q]
      rw [hmr]
      exact .cons _ _ .nil
    case fin2 =>
      rintro zs nw ⟨rfl, hzs⟩
      unfold LCg.FinE
      intro D4 h30 tk30 F30 N30 off30
      rw [List.size_toArray, List.length_map, List.take_length] at hzs
      rw [hLED] at N30
      iterate 1 walk1
      refine join_flat ⟨_, (N30 _ mm0).1, rfl, _, rfl⟩ hzs (by rw [hzs.length, List.length_map, Array.length_toList, sizeLine_eq]; lia) (by rw [← heq, sizeLine_eq]; exact hout) (fun t31 k31 => ?_)
      rw [← heq]
      obtain ⟨OB, hOB⟩ : ∃ OB, OB = (outlineB rows ps).toArray := ⟨_, rfl⟩
      rw [← hOB]
      rw [← hOB] at k F30
      iterate 1 walk1
      iterate 1 walk1
      refine ite_neg (by simp) ?_
      iterate 1 walk1
      rename Fr _ _ _ _ => F33
      rename News _ _ _ _ => N33
      refine k _ _ _ t7 F33 (has_cons rfl (has_cons rfl (has_cons rfl has_nil))) (fun p hp => ?_)
      rcases List.mem_append.mp (show p ∈ [_, _, _, _, _, _, _, _, _, _] ++ _ from hp) with q | q
      · exact N33 _ (.tail _ (.tail _ (List.mem_append_left _ q)))
      · exact N33 _ (.tail _ (.tail _ (List.mem_append_right [_, _, _, _, _, _, _, _, _, _] (List.mem_append_right _ q))))
end Mine
end
section
theorem Mine.startMathChk : True := by
  w_top off
  trivial
open PySem PySem.Spec PySem.Calls PyProof.Rows PySem.W
set_option maxRecDepth 100000
namespace Mine
/-- a label -/
noncomputable def LabOk (k : Nat) (l : List Nat) : Prop := (∃ t, l = (97 + k) :: t ∧ ∀ c ∈ t, c ≠ 46 ∧ c < 128) ∧ l.length ≤ 3
structure Fam (M : Nat) (O : List (List Nat)) (H : List (List Int)) : Prop where
  lenO : O.length = M
  lenH : H.length = M
  node : ∀ k, k < M → ∃ l, LabOk k l ∧ ((H.getD k [] = [] ∧ O.getD k [] = l ++ dotLocal) ∨ ∃ p, p < k ∧ H.getD k [] = H.getD p [] ++ [(p : Int)] ∧ O.getD k [] = l ++ 46 :: O.getD p [])
noncomputable def ndd : List Nat → Prop
  | [] => True
  | c :: r => (c = 46 → Sre.isDigit (r.headD 0) = false) ∧ ndd r
theorem ndd_NoDD : ∀ {x : List Nat}, ndd x → NoDD x.toArray := by
  intro x h i
  induction x generalizing i with
  | nil => intro e; simp at e
  | cons c r ih =>
    cases i with
    | zero =>
      intro e
      have := h.1 (by simpa using e)
      cases r with
      | nil => simpa using this
      | cons d q => simpa using this
    | succ i =>
      intro e
      have := ih h.2 i (by simpa using e)
      simpa using this
structure Good (k : Nat) (x : List Nat) : Prop where
  hd : ∃ r, x = k :: r
  big : 97 ≤ k
  dd : ndd x
  last : x.getLast? = some 108
theorem isDigit_big {c : Nat} (h : 97 ≤ c) : Sre.isDigit c = false := by
  unfold Sre.isDigit
  have : decide (c ≤ 57) = false := by simp; lia
  rw [this, Bool.and_false]
theorem ndd_app {l y : List Nat} (hl : ∀ c ∈ l, c ≠ 46) (hy : ndd (46 :: y)) : ndd (l ++ 46 :: y) := by
  induction l with
  | nil => exact hy
  | cons c r ih => exact ⟨fun e => absurd e (hl c (.head _)), ih fun c hc => hl c (.tail _ hc)⟩
theorem lab_nodot {k : Nat} {l : List Nat} (h : LabOk k l) : ∀ c ∈ l, c ≠ 46 := by
  obtain ⟨⟨t, rfl, ht⟩, _⟩ := h
  intro c hc
  rcases List.mem_cons.mp hc with rfl | hc
  · lia
  · exact (ht c hc).1
theorem Good.app {k j : Nat} {l y : List Nat} (hl : LabOk k l) (hy : Good j y) : Good (97 + k) (l ++ 46 :: y) := by
  have hnd := lab_nodot hl
  obtain ⟨⟨t, rfl, ht⟩, _⟩ := hl
  obtain ⟨r, rfl⟩ := hy.hd
  refine ⟨⟨_, rfl⟩, by lia, ndd_app hnd ⟨fun _ => isDigit_big hy.big, hy.dd⟩, ?_⟩
  have := hy.last
  rw [List.getLast?_append, List.getLast?_cons_cons, this]
  rfl
theorem good_local : Good 108 [108, 111, 99, 97, 108] := ⟨⟨_, rfl⟩, by decide, by simp [ndd], by decide⟩
section
variable {M : Nat} {O : List (List Nat)} {H : List (List Int)}
theorem Fam.good (K : Fam M O H) : ∀ k, k < M → Good (97 + k) (O.getD k []) ∧ (O.getD k []).length ≤ 9 + 4 * k := by
  intro k
  induction k using Nat.strongRecOn with
  | _ k ih =>
    intro hk
    obtain ⟨l, hl, h⟩ := K.node k hk
    rcases h with ⟨_, e⟩ | ⟨p, hp, _, e⟩
    · rw [e]
      refine ⟨.app hl good_local, ?_⟩
      have := hl.2
      rw [List.length_append]
      show l.length + 6 ≤ _
      lia
    · rw [e]
      have ⟨h1, h2⟩ := ih p hp (by lia)
      refine ⟨.app hl h1, ?_⟩
      have := hl.2
      rw [List.length_append, List.length_cons]
      lia
theorem Fam.hold (K : Fam M O H) : ∀ k, k < M → ∀ b ∈ H.getD k [], ∃ p : Nat, b = (p : Int) ∧ p < k := by
  intro k
  induction k using Nat.strongRecOn with
  | _ k ih =>
    intro hk b hb
    obtain ⟨l, hl, h⟩ := K.node k hk
    rcases h with ⟨e, _⟩ | ⟨p, hp, e, _⟩
    · rw [e] at hb; cases hb
    · rw [e] at hb
      rcases List.mem_append.mp hb with hb | hb
      · obtain ⟨q, e, hq⟩ := ih p hp (by lia) b hb
        exact ⟨q, e, by lia⟩
      · rw [List.mem_singleton.mp hb]
        exact ⟨p, rfl, hp⟩
theorem Fam.holdLen (K : Fam M O H) : ∀ k, k < M → (H.getD k []).length ≤ k := by
  intro k
  induction k using Nat.strongRecOn with
  | _ k ih =>
    intro hk
    obtain ⟨l, hl, h⟩ := K.node k hk
    rcases h with ⟨e, _⟩ | ⟨p, hp, e, _⟩
    · rw [e]; simp
    · rw [e, List.length_append, List.length_singleton]
      have := ih p hp (by lia)
      lia
/-- a name lies in the domain of what holds it -/
theorem Fam.inn (K : Fam M O H) : ∀ k, k < M → ∀ b : Nat, (b : Int) ∈ H.getD k [] → ∃ pre, pre ≠ [] ∧ O.getD k [] = pre ++ 46 :: O.getD b [] := by
  intro k
  induction k using Nat.strongRecOn with
  | _ k ih =>
    intro hk b hb
    obtain ⟨l, hl, h⟩ := K.node k hk
    have hne : l ≠ [] := by obtain ⟨⟨t, rfl, _⟩, _⟩ := hl; simp
    rcases h with ⟨e, _⟩ | ⟨p, hp, e, e2⟩
    · rw [e] at hb; cases hb
    · rw [e] at hb
      rcases List.mem_append.mp hb with hb | hb
      · obtain ⟨pre, h1, h2⟩ := ih p hp (by lia) b hb
        exact ⟨l ++ 46 :: pre, by simp, by rw [e2, h2]; simp⟩
      · have hb2 := List.mem_singleton.mp hb
        have hb3 : b = p := by lia
        subst hb3
        exact ⟨l, hne, e2⟩
theorem split_dot {l x pre post : List Nat} (hl : ∀ c ∈ l, c ≠ 46) (h : l ++ 46 :: x = pre ++ 46 :: post) : (pre = l ∧ post = x) ∨ ∃ pre', x = pre' ++ 46 :: post := by
  induction l generalizing pre with
  | nil =>
    cases pre with
    | nil => simp at h; exact .inl ⟨rfl, h.symm⟩
    | cons c r => simp at h; exact .inr ⟨r, h.2⟩
  | cons c r ih =>
    cases pre with
    | nil => simp at h; exact absurd h.1 (hl c (.head _))
    | cons d q =>
      simp at h
      rcases ih (fun c hc => hl c (.tail _ hc)) h.2 with ⟨h1, h2⟩ | h3
      · exact .inl ⟨by rw [h.1, h1], h2⟩
      · exact .inr h3
theorem Fam.out (K : Fam M O H) (hM : M ≤ 6) : ∀ k, k < M → ∀ b : Nat, b < M → ∀ pre post, O.getD k [] = pre ++ 46 :: (O.getD b [] ++ post) → (b : Int) ∈ H.getD k [] := by
  intro k
  induction k using Nat.strongRecOn with
  | _ k ih =>
    intro hk b hb pre post h
    obtain ⟨l, hl, hn⟩ := K.node k hk
    obtain ⟨rb, hrb⟩ := (K.good b hb).1.hd
    rcases hn with ⟨e, e2⟩ | ⟨p, hp, e, e2⟩
    · exfalso
      rw [e2] at h
      rcases split_dot (x := [108, 111, 99, 97, 108]) (lab_nodot hl) h with ⟨_, h2⟩ | ⟨pre', h2⟩
      · rw [hrb] at h2
        simp at h2
        lia
      · have : (46 : Nat) ∈ [108, 111, 99, 97, 108] := by rw [h2]; simp
        revert this
        decide
    · rw [e2] at h
      rcases split_dot (lab_nodot hl) h with ⟨_, h2⟩ | ⟨pre', h2⟩
      · obtain ⟨rp, hrp⟩ := (K.good p (by lia)).1.hd
        rw [hrb, hrp] at h2
        simp at h2
        have : b = p := by lia
        subst this
        rw [e]
        simp
      · rw [e]
        exact List.mem_append_left _ (ih p hp (by lia) b hb pre' post h2)
theorem Fam.hostLike (K : Fam M O H) (hM : M ≤ 6) {k : Nat} (hk : k < M) : HostLike (mkS (O.getD k [])) := by
  have ⟨g, gl⟩ := K.good k hk
  obtain ⟨r, hr⟩ := g.hd
  have hb := g.big
  refine ⟨?_, ?_, ?_, ndd_NoDD g.dd, ?_⟩
  · rw [hr]; simp
  · rw [hr]; simp; lia
  · have := g.last
    simp only [List.size_toArray]
    rw [← List.getLast?_eq_getElem?, this]
    simp
  · simp only [List.size_toArray]; lia
theorem at_iff {x y : List Nat} {i : Nat} : StrLaws.At (mkS x) (mkS y) (mkS x).length i ↔ ∃ pre post, pre.length = i ∧ x = pre ++ (y ++ post) := by
  unfold StrLaws.At Builtin.Str.subAt
  rw [mkS_len, mkS_len]
  have e : (x.toArray.extract i (i + y.length) == y.toArray) = true ↔ (x.drop i).take y.length = y := by
    rw [beq_iff_eq]
    constructor
    · intro h
      have := congrArg Array.toList h
      simp only [Array.toList_extract, List.extract_eq_take_drop] at this
      rw [Nat.add_sub_cancel_left] at this
      exact this
    · intro h
      apply Array.toList_inj.mp
      simp only [Array.toList_extract, List.extract_eq_take_drop]
      rw [Nat.add_sub_cancel_left]
      exact h
  show i + y.length ≤ x.length ∧ (x.toArray.extract i (i + y.length) == y.toArray) = true ↔ _
  rw [e]
  constructor
  · rintro ⟨h1, h2⟩
    refine ⟨x.take i, (x.drop i).drop y.length, by rw [List.length_take]; lia, ?_⟩
    conv => lhs; rw [← List.take_append_drop i x, ← List.take_append_drop y.length (x.drop i), h2]
  · rintro ⟨pre, post, rfl, rfl⟩
    refine ⟨by simp, by simp⟩
theorem find_dot {l x : List Nat} (hl : ∀ c ∈ l, c ≠ 46) : Txt.find (mkS (l ++ 46 :: x)) (Str.ofString ".") = (l.length : Int) := by
  have hd : Str.ofString "." = mkS [46] := by decide
  rw [hd]
  have hat : StrLaws.At (mkS (l ++ 46 :: x)) (mkS [46]) (mkS (l ++ 46 :: x)).length l.length := at_iff.mpr ⟨l, x, rfl, by simp⟩
  rcases find_whole (mkS (l ++ 46 :: x)) (mkS [46]) with ⟨_, h⟩ | ⟨i, h1, h2, h3⟩
  · exact absurd hat (h _)
  · rw [h1]
    obtain ⟨pre, post, hp, e⟩ := at_iff.mp h2
    have hle : i ≤ l.length := by
      apply Decidable.byContradiction
      intro hc
      exact h3 l.length (by lia) hat
    rcases split_dot hl (by simpa using e : l ++ 46 :: x = pre ++ 46 :: post) with ⟨h4, _⟩ | ⟨pre', h4⟩
    · rw [← hp, h4]
    · rw [h4] at e
      have : pre = l ++ 46 :: pre' := by
        have e' : (l ++ 46 :: pre') ++ 46 :: post = pre ++ 46 :: post := by simpa using e
        have hlen := congrArg List.length e'
        simp at hlen
        exact ((List.append_inj e' (by simp; lia)).1).symm
      have := congrArg List.length this
      simp at this
      lia
theorem rfind_in {x y : List Nat} {c : Nat} {r : List Nat} (hx : x = c :: r) (hc : c ≠ 46) {b : Bool} (h1 : b = true → ∃ pre, x = pre ++ 46 :: y) (h2 : ∀ pre post, x = pre ++ 46 :: (y ++ post) → b = true) :
    (!(Txt.rfind (mkS x) (mkS (46 :: y)) == -1 || Txt.rfind (mkS x) (mkS (46 :: y)) == 0)) = b := by
  rcases rfind_whole (mkS x) (mkS (46 :: y)) with ⟨e, h⟩ | ⟨i, e, h, _⟩
  · rw [e]
    cases b with
    | false => rfl
    | true =>
      obtain ⟨pre, hp⟩ := h1 rfl
      exact absurd (at_iff.mpr ⟨pre, [], rfl, by simpa using hp⟩) (h pre.length)
  · obtain ⟨pre, post, hp, e2⟩ := at_iff.mp h
    have hb := h2 pre post (by simpa using e2)
    rw [hb, e]
    have hi : i ≠ 0 := by
      intro h0
      rw [h0] at hp
      have : pre = [] := List.length_eq_zero_iff.mp hp
      subst this
      rw [hx] at e2
      simp at e2
      exact hc e2.1
    have e3 : ((i : Int) == -1) = false := by simp
    have e4 : ((i : Int) == 0) = false := by simp; lia
    rw [e3, e4]
    rfl
/-- what reach finds -/
noncomputable def firstOf (O : List (List Nat)) (h : List Int) : List Nat := (rungsOf O h ++ [dotLocal]).headD []
theorem rungs_node (K : Fam M O H) {k : Nat} (hk : k < M) : (H.getD k [] = [] ∧ rungsOf O (H.getD k []) = []) ∨ ∃ p, p < k ∧ rungsOf O (H.getD k []) = (46 :: O.getD p []) :: rungsOf O (H.getD p []) := by
  obtain ⟨l, hl, h⟩ := K.node k hk
  rcases h with ⟨e, _⟩ | ⟨p, hp, e, _⟩
  · exact .inl ⟨e, by rw [e]; rfl⟩
  · refine .inr ⟨p, hp, ?_⟩
    rw [e]
    simp [rungsOf]
theorem Fam.reach (K : Fam M O H) (hM : M ≤ 6) {k : Nat} (hk : k < M) {d : List Nat} (hd : (rungsOf O (H.getD k []) ++ [dotLocal])[0]? = some d) : reachL (O.getD k []) d := by
  have hh := K.hostLike hM hk
  have hlen := (K.good k hk).2
  obtain ⟨l, hl, h⟩ := K.node k hk
  have hl3 := hl.2
  refine ⟨hh, (l.length : Int), ?_⟩
  have sl : ∀ b, O.getD k [] = l ++ 46 :: b → Txt.slice (mkS (O.getD k [])) (some ((l.length : Int) + 1)) none = mkS b := fun b e => by
    rw [e]
    have := slice_from (l := l ++ 46 :: b) (n := l.length + 1) (by simp)
    rw [show ((l.length : Int) + 1) = ((l.length + 1 : Nat) : Int) by lia, this]
    congr 1
    have : l ++ 46 :: b = (l ++ [46]) ++ b := by simp
    rw [this, List.drop_left' (by simp)]
  rcases h with ⟨e, e2⟩ | ⟨p, hp, e, e2⟩
  · rw [e] at hd
    simp [rungsOf] at hd
    subst hd
    refine ⟨[108, 111, 99, 97, 108], rfl, ?_, by lia, by lia, sl _ e2, .inr (by decide), by decide⟩
    rw [e2]
    exact find_dot (lab_nodot hl)
  · rw [e] at hd
    simp [rungsOf] at hd
    subst hd
    have hpg := (K.good p (by lia)).2
    refine ⟨O.getD p [], by simp [List.getD_eq_getElem?_getD], ?_, by lia, by lia, sl _ e2, .inl ?_, by lia⟩
    · rw [e2]
      exact find_dot (lab_nodot hl)
    · obtain ⟨l2, hl2, h2⟩ := K.node p (by lia)
      rcases h2 with ⟨_, e3⟩ | ⟨p2, _, _, e3⟩
      · rw [e3, show l2 ++ dotLocal = l2 ++ 46 :: [108, 111, 99, 97, 108] from rfl, find_dot (lab_nodot hl2)]; lia
      · rw [e3, find_dot (lab_nodot hl2)]; lia
theorem Fam.next (K : Fam M O H) (hM : M ≤ 6) : ∀ k, k < M → ∀ i x d, (rungsOf O (H.getD k []))[i]? = some (46 :: x) → (rungsOf O (H.getD k []) ++ [dotLocal])[i + 1]? = some d → reachL x d := by
  intro k
  induction k using Nat.strongRecOn with
  | _ k ih =>
    intro hk i x d h1 h2
    rcases rungs_node K hk with ⟨_, e⟩ | ⟨p, hp, e⟩
    · rw [e] at h1; simp at h1
    · rw [e] at h1 h2
      rw [List.cons_append, List.getElem?_cons_succ] at h2
      cases i with
      | zero =>
        simp only [List.getElem?_cons_zero, Option.some.injEq, List.cons.injEq, true_and] at h1
        rw [← h1]
        exact K.reach hM (by lia) h2
      | succ i =>
        rw [List.getElem?_cons_succ] at h1
        exact ih p hp (by lia) i x d h1 h2
theorem Fam.nloc (K : Fam M O H) (hM : M ≤ 6) : ∀ k, k < M → ∀ r ∈ rungsOf O (H.getD k []), r ≠ dotLocal := by
  intro k
  induction k using Nat.strongRecOn with
  | _ k ih =>
    intro hk r hr
    rcases rungs_node K hk with ⟨_, e⟩ | ⟨p, hp, e⟩
    · rw [e] at hr; cases hr
    · rw [e] at hr
      rcases List.mem_cons.mp hr with rfl | hr
      · obtain ⟨q, hq⟩ := (K.good p (by lia)).1.hd
        rw [hq]
        intro h
        unfold dotLocal at h
        simp at h
        lia
      · exact ih p hp (by lia) r hr
theorem Fam.asc (K : Fam M O H) (hM : M ≤ 6) : ∀ k, k < M → ∀ c ∈ O.getD k [], c < 128 := by
  intro k
  induction k using Nat.strongRecOn with
  | _ k ih =>
    intro hk c hc
    obtain ⟨l, hl, h⟩ := K.node k hk
    have hlc : ∀ c ∈ l, c < 128 := by
      obtain ⟨⟨t, rfl, ht⟩, _⟩ := hl
      intro c hc
      rcases List.mem_cons.mp hc with rfl | hc
      · lia
      · exact (ht c hc).2
    rcases h with ⟨_, e⟩ | ⟨p, hp, _, e⟩
    · rw [e] at hc
      rcases List.mem_append.mp hc with hc | hc
      · exact hlc c hc
      · exact (by decide : ∀ c ∈ dotLocal, c < 128) c hc
    · rw [e] at hc
      rcases List.mem_append.mp hc with hc | hc
      · exact hlc c hc
      · rcases List.mem_cons.mp hc with rfl | hc
        · decide
        · exact ih p hp (by lia) c hc
/-- the names in small letters -/
theorem Fam.low (K : Fam M O H) (hM : M ≤ 6) : Fam M (O.map (List.map lo1)) H := by
  have hg : ∀ k, k < M → (O.map (List.map lo1)).getD k [] = (O.getD k []).map lo1 := fun k hk => by
    rw [List.getD_eq_getElem?_getD, List.getD_eq_getElem?_getD, List.getElem?_map, List.getElem?_eq_getElem (by rw [K.lenO]; exact hk)]
    rfl
  refine ⟨by rw [List.length_map, K.lenO], K.lenH, fun k hk => ?_⟩
  obtain ⟨l, hl, h⟩ := K.node k hk
  refine ⟨l.map lo1, ?_, ?_⟩
  · obtain ⟨⟨t, rfl, ht⟩, h3⟩ := hl
    refine ⟨⟨t.map lo1, ?_, fun c hc => ?_⟩, by rw [List.length_map]; exact h3⟩
    · rw [List.map_cons]
      congr 1
      unfold lo1
      rw [if_neg (by lia)]
    · obtain ⟨d, hd, rfl⟩ := List.mem_map.mp hc
      have := ht d hd
      unfold lo1
      split <;> lia
  · rw [hg k hk]
    rcases h with ⟨e, e2⟩ | ⟨p, hp, e, e2⟩
    · refine .inl ⟨e, ?_⟩
      rw [e2, List.map_append]
      congr 1
    · refine .inr ⟨p, hp, e, ?_⟩
      rw [e2, List.map_append, List.map_cons, hg p (by lia)]
      rfl
theorem lower_mk {x : List Nat} (h : ∀ c ∈ x, c < 128) : Txt.lower (mkS x) = mkS (x.map lo1) := by
  rw [lower_ascii (by simpa using h)]
  simp
theorem Fam.match (K : Fam M O H) (hM : M ≤ 6) {a b : Nat} (ha : a < M) (hb : b < M) : matchL (O.getD a []) (46 :: O.getD b []) ((H.getD a []).contains (b : Int)) := by
  have K2 := K.low hM
  have hg : ∀ k, k < M → (O.map (List.map lo1)).getD k [] = (O.getD k []).map lo1 := fun k hk => by
    rw [List.getD_eq_getElem?_getD, List.getD_eq_getElem?_getD, List.getElem?_map, List.getElem?_eq_getElem (by rw [K.lenO]; exact hk)]
    rfl
  have e1 : Txt.lower (mkS (O.getD a [])) = mkS ((O.map (List.map lo1)).getD a []) := by rw [lower_mk (K.asc hM a ha), hg a ha]
  have e2 : Txt.lower (mkS (46 :: O.getD b [])) = mkS (46 :: (O.map (List.map lo1)).getD b []) := by
    rw [lower_mk fun c hc => ?_, hg b hb]
    · rfl
    · rcases List.mem_cons.mp hc with rfl | hc
      · decide
      · exact K.asc hM b hb c hc
  have la := (K.good a ha).2
  have lb := (K.good b hb).2
  have lb2 := (K2.good b hb).2
  obtain ⟨ra, hra⟩ := (K2.good a ha).1.hd
  unfold matchL
  rw [e1, e2, slice_one]
  refine ⟨K2.hostLike hM ha, K2.hostLike hM hb, ?_, ?_, by lia, by rw [List.length_cons]; lia, by rw [mkS_len, List.length_cons]; lia, ?_⟩
  · rw [beq_eq_false_iff_ne, hra]
    intro h
    have := congrArg (fun z : Str => z.cps[0]?) h
    simp at this
    lia
  · have hd : Str.ofString "." = mkS [46] := by decide
    have := (at_iff (x := 46 :: (O.map (List.map lo1)).getD b []) (y := [46]) (i := 0)).mpr ⟨[], _, rfl, rfl⟩
    rw [hd]
    unfold Txt.startswith
    rw [this.2, Bool.and_true]
    simpa using this.1
  · refine rfind_in hra (by lia) (fun h => ?_) (fun pre post h => ?_)
    · have hm : (b : Int) ∈ H.getD a [] := by simpa using h
      obtain ⟨pre, _, e⟩ := K2.inn a ha b hm
      exact ⟨pre, e⟩
    · have := K2.out hM a ha b hb pre post h
      simpa using this
theorem Fam.checks (K : Fam M O H) (hM : M ≤ 6) : Checks M H O := by
  have hH : ∀ h ∈ H, ∃ k, k < M ∧ h = H.getD k [] := fun h hh => by
    obtain ⟨k, hk, e⟩ := List.getElem_of_mem hh
    exact ⟨k, by rw [← K.lenH]; exact hk, by rw [List.getD_eq_getElem?_getD, List.getElem?_eq_getElem hk, e]; rfl⟩
  have hO : ∀ h ∈ O, ∃ k, k < M ∧ h = O.getD k [] := fun h hh => by
    obtain ⟨k, hk, e⟩ := List.getElem_of_mem hh
    exact ⟨k, by rw [← K.lenO]; exact hk, by rw [List.getD_eq_getElem?_getD, List.getElem?_eq_getElem hk, e]; rfl⟩
  refine ⟨K.lenH, K.lenO, ?_, ?_, ?_, ?_, fun j hj d hd => K.reach hM hj hd, K.next hM, K.nloc hM, fun a b ha hb _ => K.match hM ha hb⟩
  · intro h hh b hb
    obtain ⟨k, hk, rfl⟩ := hH h hh
    obtain ⟨p, e, hp⟩ := K.hold k hk b hb
    lia
  · intro h hh
    obtain ⟨k, hk, rfl⟩ := hH h hh
    have := K.holdLen k hk
    lia
  · intro o ho
    obtain ⟨k, hk, rfl⟩ := hO o ho
    have := (K.good k hk).2
    lia
  · intro o ho
    obtain ⟨k, hk, rfl⟩ := hO o ho
    exact K.asc hM k hk
end
theorem holdsL_stable (ps : List Int) : ∀ (n k p : Nat), p < k → (holdsL ps (k + n)).getD p [] = (holdsL ps k).getD p []
  | 0, _, _, _ => rfl
  | n + 1, k, p, h => by
    rw [← Nat.add_assoc, holdsL, getD_append_left (by rw [holdsL_len]; lia)]
    exact holdsL_stable ps n k p h
theorem hostsL_stable (labs : List (List Nat)) (ps : List Int) : ∀ (n k p : Nat), p < k → (hostsL labs ps (k + n)).getD p [] = (hostsL labs ps k).getD p []
  | 0, _, _, _ => rfl
  | n + 1, k, p, h => by
    rw [← Nat.add_assoc, hostsL, getD_append_left (by rw [hostsL_len]; lia)]
    exact hostsL_stable labs ps n k p h
theorem holdsL_get {ps : List Int} {M k : Nat} (h : k < M) : (holdsL ps M).getD k [] = hold1 (holdsL ps k) (ps.getD k 0) := by
  obtain ⟨n, rfl⟩ : ∃ n, M = (k + 1) + n := ⟨M - (k + 1), by lia⟩
  rw [holdsL_stable ps n (k + 1) k (by lia), holdsL]
  have := getD_append_len (l := holdsL ps k) (x := hold1 (holdsL ps k) (ps.getD k 0)) (d := [])
  rw [holdsL_len] at this
  exact this
theorem hostsL_get {labs : List (List Nat)} {ps : List Int} {M k : Nat} (h : k < M) : (hostsL labs ps M).getD k [] = host1 (hostsL labs ps k) (labs.getD k []) (ps.getD k 0) := by
  obtain ⟨n, rfl⟩ : ∃ n, M = (k + 1) + n := ⟨M - (k + 1), by lia⟩
  rw [hostsL_stable labs ps n (k + 1) k (by lia), hostsL]
  have := getD_append_len (l := hostsL labs ps k) (x := host1 (hostsL labs ps k) (labs.getD k []) (ps.getD k 0)) (d := [])
  rw [hostsL_len] at this
  exact this
theorem tails_ok : ∀ i, (∀ c ∈ tailsL.getD i [], c ≠ 46 ∧ c < 128)
  | 0 => by decide
  | 1 => by decide
  | 2 => by decide
  | 3 => by decide
  | i + 4 => by simp [tailsL]
theorem labOf_ok (ns : List Int) (k : Nat) : LabOk k (labOf ns k) := ⟨⟨_, rfl, tails_ok _⟩, labOf_len ns k⟩
theorem fam_of (ns : List Int) (M : Nat) : Fam M (hostsL (labsL ns M) (parsL ns M) M) (holdsL (parsL ns M) M) := by
  refine ⟨hostsL_len _ _ _, holdsL_len _ _, fun k hk => ⟨labOf ns k, labOf_ok ns k, ?_⟩⟩
  rw [holdsL_get hk, hostsL_get hk, labsL_get hk, parsL_get hk]
  have ⟨b1, b2⟩ := parOf_bounds ns k
  by_cases h : parOf ns k < 0
  · refine .inl ⟨?_, ?_⟩
    · rw [hold1, if_pos h]
    · rw [host1, if_pos h]
  · refine .inr ⟨(parOf ns k).toNat, by lia, ?_, ?_⟩
    · rw [hold1, if_neg h]
      obtain ⟨n, rfl⟩ : ∃ n, M = k + n := ⟨M - k, by lia⟩
      rw [holdsL_stable _ n k _ (by lia), Int.toNat_of_nonneg (by lia)]
    · rw [host1, if_neg h]
      obtain ⟨n, rfl⟩ : ∃ n, M = k + n := ⟨M - k, by lia⟩
      rw [hostsL_stable _ _ n k _ (by lia)]
end Mine
end
section
theorem Mine.startMathSplit : True := by
  w_top off
  trivial
open PySem PySem.Spec PySem.Calls PyProof.Rows PySem.W PySem.Builtin.Str
set_option maxRecDepth 100000
namespace Mine
noncomputable abbrev nlS : Str := ⟨#[10]⟩
theorem at_nl {x : List Nat} {i : Nat} : (i + nlS.length ≤ (mkS x).length ∧ subAt (mkS x) nlS i = true) ↔ x[i]? = some 10 := by
  have h := at_iff (x := x) (y := [10]) (i := i)
  unfold StrLaws.At at h
  rw [h]
  constructor
  · rintro ⟨pre, post, rfl, rfl⟩
    simp
  · intro h
    have hi := (List.getElem?_eq_some_iff.mp h).1
    have h2 := (List.getElem?_eq_some_iff.mp h).2
    refine ⟨x.take i, x.drop (i + 1), by rw [List.length_take]; lia, ?_⟩
    have e : x.drop i = [10] ++ x.drop (i + 1) := by rw [List.drop_eq_getElem_cons hi, h2]; rfl
    rw [← e, List.take_append_drop]
theorem occ_filter {x : List Nat} {limit : Nat} : ∀ (n a : Nat) (found : Array Nat) (free : Nat), free ≤ a → found.size + n ≤ limit →
    (forIn (List.range' a n) (found, free) (StrLaws.occBody (mkS x) nlS (mkS x).length limit)).run.fst.toList = found.toList ++ (List.range' a n).filter (fun i => x[i]? == some 10)
  | 0, a, found, free, _, _ => by simp
  | n + 1, a, found, free, hf, hl => by
    rw [List.range'_succ, List.forIn_cons]
    by_cases hc : x[a]? = some 10
    · have ⟨h1, h2⟩ := at_nl.mpr hc
      have hb : StrLaws.occBody (mkS x) nlS (mkS x).length limit a (found, free) = pure (ForInStep.yield (found.push a, a + 1)) := by
        unfold StrLaws.occBody
        rw [if_pos ⟨⟨⟨by show found.size < limit; lia, hf⟩, h1⟩, h2⟩]
        rfl
      have ih := occ_filter (x := x) (limit := limit) n (a + 1) (found.push a) (a + 1) (Nat.le_refl _) (by simp; lia)
      rw [hb, pure_bind]
      refine ih.trans ?_
      rw [List.filter_cons, if_pos (by simp [hc])]
      simp
    · have hb : StrLaws.occBody (mkS x) nlS (mkS x).length limit a (found, free) = pure (ForInStep.yield (found, free)) := by
        unfold StrLaws.occBody
        rw [if_neg fun h => hc (at_nl.mp ⟨h.1.2, h.2⟩)]
      have ih := occ_filter (x := x) (limit := limit) n (a + 1) found free (by lia) (by lia)
      rw [hb, pure_bind]
      refine ih.trans ?_
      rw [List.filter_cons, if_neg (by simp [hc])]
noncomputable def flatL (ls : List (List Nat)) : List Nat := (ls.map (· ++ [10])).flatten
noncomputable def cutsL : Nat → List (List Nat) → List Nat
  | _, [] => []
  | a, l :: ls => (a + l.length) :: cutsL (a + l.length + 1) ls
theorem filt_cuts (x : List Nat) : ∀ (ls : List (List Nat)) (a : Nat), (∀ l ∈ ls, ∀ c ∈ l, c ≠ 10) → x.drop a = flatL ls → (List.range' a ((flatL ls).length + 1)).filter (fun i => x[i]? == some 10) = cutsL a ls
  | [], a, _, e => by
    have h : x[a]? = none := by
      rw [← List.head?_drop, e]
      rfl
    simp [flatL, cutsL, List.range', h]
  | l :: ls, a, hl, e => by
    have e1 : flatL (l :: ls) = l ++ 10 :: flatL ls := by simp [flatL]
    rw [e1] at e ⊢
    have hx : ∀ i, x[a + i]? = (l ++ 10 :: flatL ls)[i]? := fun i => by rw [← e, List.getElem?_drop]
    have e2 : x.drop (a + l.length + 1) = flatL ls := by
      have : x.drop (a + l.length + 1) = (x.drop a).drop (l.length + 1) := by rw [List.drop_drop, Nat.add_assoc]
      rw [this, e]
      have : l ++ 10 :: flatL ls = (l ++ [10]) ++ flatL ls := by simp
      rw [this, List.drop_left' (by simp)]
    have ih := filt_cuts x ls (a + l.length + 1) (fun l' h => hl l' (.tail _ h)) e2
    have e3 : (l ++ 10 :: flatL ls).length + 1 = l.length + (1 + ((flatL ls).length + 1)) := by simp; lia
    rw [e3, ← List.range'_append_1, ← List.range'_append_1, List.filter_append, List.filter_append]
    have f1 : (List.range' a l.length).filter (fun i => x[i]? == some 10) = [] := by
      rw [List.filter_eq_nil_iff]
      intro i hi
      have ⟨h1, h2⟩ := List.mem_range'_1.mp hi
      have := hx (i - a)
      rw [show a + (i - a) = i by lia, List.getElem?_append_left (by lia), List.getElem?_eq_getElem (l := l) (by lia)] at this
      rw [this]
      have hc := hl l (.head _) _ (List.getElem_mem (by lia : i - a < l.length))
      simpa using hc
    have f2 : (List.range' (a + l.length) 1).filter (fun i => x[i]? == some 10) = [a + l.length] := by
      have := hx l.length
      rw [List.getElem?_append_right (Nat.le_refl _), Nat.sub_self] at this
      simp [List.range', this]
    rw [f1, f2, ih]
    rfl
theorem parts_cuts (x : List Nat) : ∀ (ls : List (List Nat)) (a : Nat), x.drop a = flatL ls → a ≤ x.length → StrLaws.partsFrom (mkS x) 1 a (cutsL a ls) = ls.map mkS ++ [mkS []]
  | [], a, e, ha => by
    show [strSub (mkS x) a (mkS x).length] = [mkS []]
    have hz : x.length ≤ a := by
      have := congrArg List.length e
      simp [flatL] at this
      lia
    congr 1
    unfold strSub
    congr 1
    rw [mkS_len]
    apply Array.toList_inj.mp
    simp only [Array.toList_extract, List.extract_eq_take_drop]
    rw [show x.length - a = 0 by lia]
    rfl
  | l :: ls, a, e, ha => by
    have e1 : flatL (l :: ls) = l ++ 10 :: flatL ls := by simp [flatL]
    rw [e1] at e
    have e2 : x.drop (a + l.length + 1) = flatL ls := by
      have : x.drop (a + l.length + 1) = (x.drop a).drop (l.length + 1) := by rw [List.drop_drop, Nat.add_assoc]
      rw [this, e]
      have : l ++ 10 :: flatL ls = (l ++ [10]) ++ flatL ls := by simp
      rw [this, List.drop_left' (by simp)]
    have hlen : l.length + 1 ≤ x.length - a := by
      have := congrArg List.length e
      simp at this
      lia
    show strSub (mkS x) a (a + l.length) :: StrLaws.partsFrom (mkS x) 1 (a + l.length + 1) (cutsL (a + l.length + 1) ls) = _
    rw [parts_cuts x ls _ e2 (by lia)]
    have e4 : strSub (mkS x) a (a + l.length) = mkS l := by
      unfold strSub
      show Str.mk (x.toArray.extract a (a + l.length)) = Str.mk l.toArray
      congr 1
      apply Array.toList_inj.mp
      simp only [Array.toList_extract, List.extract_eq_take_drop]
      rw [Nat.add_sub_cancel_left, e, List.take_left' rfl]
    rw [e4]
    rfl
theorem kind_pos (x : Str) : 1 ≤ Builtin.Str.strKind x := by
  unfold Builtin.Str.strKind
  split
  · exact Nat.le_refl _
  · split <;> decide
theorem split_lines {ls : List (List Nat)} (h : ∀ l ∈ ls, ∀ c ∈ l, c ≠ 10) (hne : ls ≠ []) : Txt.split (mkS (flatL ls)) (Str.ofString "\n") = ls.map mkS ++ [mkS []] := by
  have hs : Str.ofString "\n" = nlS := by decide
  rw [hs]
  have hpos : 1 ≤ (flatL ls).length := by
    cases ls with
    | nil => exact absurd rfl hne
    | cons l r => simp [flatL]; lia
  have hocc : occurrences (mkS (flatL ls)) nlS 0 (mkS (flatL ls)).length ((mkS (flatL ls)).length + 1) = cutsL 0 ls := by
    rw [StrLaws.occ_eq, occ_filter _ _ _ _ (Nat.le_refl _) (by simp)]
    rw [mkS_len, Nat.sub_zero, filt_cuts (flatL ls) ls 0 h rfl]
    rfl
  unfold Txt.split
  rw [hocc]
  have c1 : (decide ((mkS (flatL ls)).length < nlS.length) || decide (Builtin.Str.strKind (mkS (flatL ls)) < Builtin.Str.strKind nlS)) = false := by
    have h1 : ¬ (mkS (flatL ls)).length < nlS.length := by rw [mkS_len]; show ¬ _ < 1; lia
    have h2 : ¬ Builtin.Str.strKind (mkS (flatL ls)) < Builtin.Str.strKind nlS := by
      have := kind_pos (mkS (flatL ls))
      have h3 : Builtin.Str.strKind nlS = 1 := by decide +kernel
      lia
    simp [h1, h2]
  rw [c1]
  have c2 : (cutsL 0 ls).isEmpty = false := by
    cases ls with
    | nil => exact absurd rfl hne
    | cons l r => rfl
  rw [c2]
  simp only [Bool.false_eq_true, if_false]
  rw [StrLaws.partsBetween_eq]
  exact parts_cuts (flatL ls) ls 0 rfl (Nat.zero_le _)
theorem strip_dots {d c : Nat} {r : List Nat} (hc : c ≠ 46) : Txt.lstripChars (mkS (List.replicate d 46 ++ c :: r)) (Str.ofString ".") = mkS (c :: r) := by
  have hd : Str.ofString "." = Str.mk #[46] := by decide
  unfold Txt.lstripChars
  rw [PyProof.Rows.stripBy_eq, hd]
  have e1 : stripLo (Str.mk #[46]).cps.contains true (mkS (List.replicate d 46 ++ c :: r)) = d := by
    unfold stripLo
    rw [if_pos rfl]
    show ((List.replicate d 46 ++ c :: r).takeWhile _).length = d
    rw [List.takeWhile_append_of_pos (by intro a ha; rw [List.eq_of_mem_replicate ha]; simp), List.takeWhile_cons, if_neg (by simp; exact hc)]
    simp
  have e2 : stripHi (Str.mk #[46]).cps.contains false (mkS (List.replicate d 46 ++ c :: r)) d = (mkS (List.replicate d 46 ++ c :: r)).length := by
    unfold stripHi
    rw [if_neg (by simp)]
  rw [e1, e2]
  unfold strSub
  show Str.mk ((List.replicate d 46 ++ c :: r).toArray.extract d _) = _
  congr 1
  apply Array.toList_inj.mp
  simp only [Array.toList_extract, List.extract_eq_take_drop]
  rw [mkS_len, List.drop_left' (by simp)]
  rw [List.take_of_length_le (by simp)]
end Mine
end
section
theorem Mine.startSegF : True := by
  w_top off
  trivial
open PySem PySem.Spec PySem.Calls PyProof.Rows PySem.W
set_option maxRecDepth 100000
set_option maxHeartbeats 8000000
namespace Mine
noncomputable abbrev Row := Nat × List Nat
noncomputable def lineOf (s : Row) : List Nat := List.replicate s.1 46 ++ s.2
structure RowOk (s : Row) : Prop where
  hd : ∃ c r, s.2 = c :: r ∧ c ≠ 46
  ch : ∀ x ∈ s.2, x ≠ 10 ∧ x < 128
  dots : s.1 ≤ 100
  len : s.2.length ≤ 100
noncomputable def prodS (great : Int) (segs : List Row) : Int := segs.foldl (fun n s => n * (great + 2 - ((lineOf s).length : Int) + (s.2.length : Int))) 1

theorem line_ok {s : Row} (h : RowOk s) : ∀ c ∈ lineOf s, c ≠ 10 := fun c hc => by
  rcases List.mem_append.mp hc with hc | hc
  · rw [List.eq_of_mem_replicate hc]; decide
  · exact (h.ch c hc).1
theorem flat_asc {segs : List Row} (h : ∀ s ∈ segs, RowOk s) : ∀ c ∈ flatL (segs.map lineOf), c < 128 := fun c hc => by
  unfold flatL at hc
  rw [List.mem_flatten] at hc
  obtain ⟨l, hl, hc⟩ := hc
  rw [List.map_map] at hl
  obtain ⟨s, hs, rfl⟩ := List.mem_map.mp hl
  rcases List.mem_append.mp (show c ∈ lineOf s ++ [10] from hc) with hc | hc
  · rcases List.mem_append.mp hc with hc | hc
    · rw [List.eq_of_mem_replicate hc]; decide
    · exact ((h s hs).ch c hc).2
  · rw [List.mem_singleton.mp hc]; decide
theorem flat_len0 : ∀ {segs : List Row}, (∀ s ∈ segs, RowOk s) → (flatL (segs.map lineOf)).length ≤ 201 * segs.length
  | [], _ => by simp [flatL]
  | a :: r, h => by
    have ih := flat_len0 (segs := r) fun s hs => h s (.tail _ hs)
    have ha := h a (.head _)
    have e : flatL ((a :: r).map lineOf) = lineOf a ++ [10] ++ flatL (r.map lineOf) := by simp [flatL]
    have e2 : (lineOf a).length = a.1 + a.2.length := by simp [lineOf]
    have := ha.dots
    have := ha.len
    rw [e, List.length_append, List.length_append, e2]
    simp only [List.length_cons, List.length_nil]
    lia
theorem flat_len {segs : List Row} (h : ∀ s ∈ segs, RowOk s) (h6 : segs.length ≤ 6) : (flatL (segs.map lineOf)).length ≤ 1300 := by
  have := flat_len0 h
  lia
theorem sv_split : ∀ {ls : List (List Nat)} {l : List (Str × Tok)}, l.map (·.1) = ls.map mkS ++ [mkS []] → ∃ vs v, strValues l = vs ++ [v] ∧ F2 strV vs ls
  | [], l, e => by
    cases l with
    | nil => simp at e
    | cons a r =>
      cases r with
      | nil => exact ⟨[], _, rfl, .nil⟩
      | cons b q => simp at e
  | x :: ls, l, e => by
    cases l with
    | nil => simp at e
    | cons a r =>
      simp only [List.map_cons, List.cons_append, List.cons.injEq] at e
      obtain ⟨vs, v, h1, h2⟩ := sv_split (l := r) e.2
      refine ⟨.str a.1 a.2 :: vs, v, ?_, .cons ⟨a.2, ?_⟩ h2⟩
      · show Value.str a.1 a.2 :: strValues r = _
        rw [h1]
        rfl
      · rw [e.1]
theorem pick_init {vs : List Value} {v : Value} : slicePick (vs ++ [v]).toArray none (some (-1)) none = vs.toArray := by
  rw [slicePick_plain]
  simp only [Option.elim, List.drop_zero, Nat.sub_zero]
  have e : clipAt (vs ++ [v]).toArray.size (-1) = vs.length := by
    have := clipAt_neg (vs ++ [v]).toArray.size 1 (Nat.le_refl _)
    rw [show (-((1 : Nat) : Int)) = -1 by rfl] at this
    rw [this, List.size_toArray, List.length_append, List.length_singleton, Nat.add_sub_cancel]
  rw [e, List.take_left' rfl]
theorem fac_bits {g : Int} {s : Row} (h0 : 0 ≤ g) (h1 : g < 2 ^ 151) (h : RowOk s) : Builtin.Int.intBits (g + 2 - ((lineOf s).length : Int) + (s.2.length : Int)) ≤ 200 := by
  have hll : (lineOf s).length = s.1 + s.2.length := by simp [lineOf]
  have := h.dots
  have e : (2 : Int) ^ 151 = 2854495385411919762116571938898990272765493248 := by decide
  have e2 : (2 : Nat) ^ 200 = 1606938044258990275541962092341162602522202993782792835301376 := by decide
  rw [PySem.intBits_le_iff, hll]
  lia
theorem prod_bits {g : Int} (h0 : 0 ≤ g) (h1 : g < 2 ^ 151) : ∀ (segs : List Row) (a : Int) (n : Nat), (∀ s ∈ segs, RowOk s) → Builtin.Int.intBits a ≤ n → Builtin.Int.intBits (segs.foldl (fun n s => n * (g + 2 - ((lineOf s).length : Int) + (s.2.length : Int))) a) ≤ n + 200 * segs.length
  | [], _, n, _, h => by simpa using h
  | s :: r, a, n, hs, h => by
    have := prod_bits h0 h1 r _ (n + 200) (fun s hs' => hs s (.tail _ hs')) (PySem.intBits_mul_le h (fac_bits h0 h1 (hs s (.head _))))
    rw [List.foldl_cons, List.length_cons]
    lia
theorem prodS_succ {g : Int} {segs : List Row} {j : Nat} {s : Row} (h : segs[j]? = some s) : prodS g (segs.take (j + 1)) = prodS g (segs.take j) * (g + 2 - ((lineOf s).length : Int) + (s.2.length : Int)) := by
  rw [List.take_add_one, h]
  simp [prodS, List.foldl_append]
theorem segF : ∀ {w : World} {L fa : Addr} {cd : Value} {R : Flow → Shared → Prop} {E : Value → Shared → Prop} {s : Shared} {h₀ : Heap} {p : Program} {loose : List Str} {mean : ExcName → Option Value} {mg mb : Str → Option Value} {m : Str → Option Value}
    {M : Nat} {tM tT tB : Tok} {tot : Int} {dA : Addr} {oR oH oD : Obj} {t80 t73 : Obj} {dv : List Value} {cdd : Nat} {imm : List (Addr × Obj)} {segs : List Row} {OB : Array UInt8},
    ∀ (X : (Mine.hd.heap_39 w.params).In h₀) (T : Top p loose mean mg mb h₀)
    (F : Fr h₀ L s.heap m) (hm : Has m [(Str.ofString "many", .int M tM), (Str.ofString "total", .int tot tT), (Str.ofString "mail", .bytes OB tB)])
    (N : News h₀ L s.heap ((dA, PySem.W.listOf (List.toArray dv) cdd) :: (L + 1 + 1 + 1, oR) :: (L + 1 + 1, oH) :: (L + 1, oD) :: (80, t80) :: (73, t73) :: imm))
    (iR : notIt oR = true) (iH : notIt oH = true) (iD : notIt oD = true)
    (him : ∀ p ∈ imm, isLst p.2) (n80 : notIt t80 = true) (n73 : notIt t73 = true)
    (hseg : ∀ s ∈ segs, RowOk s) (hne : segs ≠ []) (hs6 : segs.length ≤ 6) (ht0 : 0 ≤ tot) (ht1 : tot < 2 ^ 150) (hOB : OB = bytesL (flatL (segs.map lineOf)))
    (k : ∀ h tk m tG tN, Fr h₀ L h m → Has m [(Str.ofString "many", .int M tM), (Str.ofString "great", .int (128 + tot) tG), (Str.ofString "number", .int (prodS (128 + tot) segs) tN)] →
      News h₀ L h ((dA, PySem.W.listOf (List.toArray dv) cdd) :: (L + 1 + 1 + 1, oR) :: (L + 1 + 1, oH) :: (L + 1, oD) :: (80, t80) :: (73, t73) :: imm) →
      wpAny (model PySem.Challenge.rw_xe0036_01.row.prog w) (lawA L fa cd) (execs (lawDef.1.drop 19) (lawE L fa cd)) R E { s with heap := h, toks := tk }),
    wpAny (model PySem.Challenge.rw_xe0036_01.row.prog w) (lawA L fa cd) (execs (lawDef.1.drop 16) (lawE L fa cd)) R E s := by
  k_fill
  intro w L fa cd R E s h₀ p loose mean mg mb m M tM tT tB tot dA oR oH oD t80 t73 dv cdd imm segs OB X T F hm N iR iH iD him n80 n73 hseg hne hs6 ht0 ht1 hOB k
  conv at k in (List.drop _ _) => whnf
  conv in (List.drop _ _) => whnf
  unfold lawA lawE at k ⊢
  conv at k in lawDef.2 => whnf
  conv at k in lawDef.2 => whnf
  conv in lawDef.2 => whnf
  conv in lawDef.2 => whnf
  have hm0 := hm.nf
  rw [hm0] at F
  dsimp only [chain] at F
  iterate 12 walk1
  refine wpAny_For ?_
  have hflat : ∀ c ∈ flatL (segs.map lineOf), c < 128 := flat_asc hseg
  have hfl : (flatL (segs.map lineOf)).length ≤ 1300 := flat_len hseg hs6
  obtain ⟨c0, l0, hcl⟩ : ∃ c l, flatL (segs.map lineOf) = c :: l := by
    cases segs with
    | nil => exact absurd rfl hne
    | cons a r =>
      cases e : flatL ((a :: r).map lineOf) with
      | nil => simp [flatL] at e
      | cons c l => exact ⟨c, l, rfl⟩
  rw [hcl] at hflat hfl hOB
  subst hOB
  iterate 9 walk1
  refine decode_asc hflat (by lia) (fun t5 k5 => ?_)
  rw [← hcl]
  iterate 4 walk1
  rename Fr _ _ _ _ => F6
  rename News _ _ _ _ => N6
  iterate 1 walk1
  refine KSpl.split1 (x := mkS (flatL (segs.map lineOf))) (y := Str.ofString "\n") F6 N6 (by decide) (fun D l h7 k7 el hst F7 N7 hD => ?_) (by rw [mkS_len, hcl, sizeLine_eq]; lia)
  rw [split_lines (fun l hl => ?nl) ?ne2] at el
  case nl =>
    obtain ⟨s, hs, rfl⟩ := List.mem_map.mp hl
    exact line_ok (hseg s hs)
  case ne2 => simpa using hne
  clear F6 N6
  iterate 8 walk1
  obtain ⟨vs, v0, hvs, hvl⟩ := sv_split el
  rw [hvs] at N7
  refine slice_list3 (items := (vs ++ [v0]).toArray) (lo := none) (hi := some (-1)) (st := none) F7 N7 ⟨_, (N7 _ mm0).1, rfl, _, rfl⟩ .none (.int _ _) .none (by simp) (fun h8 F8 N8 => ?_) (hsz := by have := hvl.length; rw [List.size_toArray, sizeLine_eq, List.length_append, List.length_singleton]; rw [List.length_map] at this; lia)
  rw [pick_init] at N8
  dsimp only at F8 N8 ⊢
  generalize h7.objs.size + 1 = D2 at *
  obtain ⟨m3, hm3⟩ : ∃ m3, m3 = mOf F8 := ⟨_, rfl⟩
  obtain ⟨LED, hLED⟩ : ∃ LED, LED = ((dA, PySem.W.listOf (List.toArray dv) cdd) :: (L + 1 + 1 + 1, oR) :: (L + 1 + 1, oH) :: (L + 1, oD) :: (80, t80) :: (73, t73) :: imm) := ⟨_, rfl⟩
  have hLn : ∀ p ∈ LED, notIt p.2 = true := by
    rw [hLED]
    exact fa_cons (P := fun p : Addr × Obj => notIt p.2 = true) rfl (fa_cons iR (fa_cons iH (fa_cons iD (fa_cons n80 (fa_cons n73 fun p hp => (him p hp).notIt)))))
  have hD2L : D2 ≠ L := (N8 _ mm0).2.1
  have hD2N : Heap.IsList h8 D2 vs.toArray := ⟨_, (N8 _ mm0).1, rfl, _, rfl⟩
  rw [← hLED] at N8
  refine iterList_J (vs := vs) rfl hD2N hD2L F8 N8 (fun t m nw => (∀ y, y ≠ Str.ofString "line" → y ≠ Str.ofString "number" → m y = m3 y) ∧ (∃ tN, m (Str.ofString "number") = some (.int (prodS (128 + tot) (segs.take t)) tN)) ∧ ∀ p ∈ LED, p ∈ nw) ?mono ?start ?turn ?done
  case mono =>
    rintro j m' nw nw' ⟨e, hn, hin⟩ hk
    exact ⟨e, hn, fun p hp => hk p (hin p hp) (.inl (hLn p hp))⟩
  case start =>
    exact ⟨fun y _ _ => by rw [hm3]; rfl, ⟨_, rfl⟩, fun p hp => .tail _ (.tail _ hp)⟩
  case done =>
    rintro m₁ news₁ h tk ⟨hag, ⟨tN, hN⟩, hin⟩ F N
    obtain ⟨a1, a2, rfl⟩ := ag2 hag
    dsimp only at hN
    rw [if_neg (by decide), if_pos rfl] at hN
    subst hN
    rw [hm3] at F
    dsimp only [mOf] at F
    rw [show vs.length = segs.length by rw [hvl.length, List.length_map], List.take_length] at F
    dsimp only
    rw [hLED] at hin
    exact k h tk _ _ tN F (has_cons rfl (has_cons rfl (has_cons rfl has_nil))) (fun p hp => N p (hin p hp))
  case turn =>
    rintro j v m₁ news₁ h tkA own E₁ hj ⟨hag, ⟨tN, hN⟩, hin⟩ ho F N
    refine turn_gen fun Qt1 hQt1 => ?_
    obtain ⟨a1, a2, rfl⟩ := ag2 hag
    dsimp only at hN
    rw [if_neg (by decide), if_pos rfl] at hN
    subst hN
    rw [hm3] at F
    dsimp only [mOf] at F
    obtain ⟨ln, hln, ⟨tl, rfl⟩⟩ := hvl.get' hj
    have hjs : j < segs.length := by
      have := (List.getElem?_eq_some_iff.mp hln).1
      rwa [List.length_map] at this
    obtain ⟨sg, hsg⟩ : ∃ sg, segs[j]? = some sg := ⟨_, List.getElem?_eq_getElem hjs⟩
    have hl2 : ln = lineOf sg := by
      rw [List.getElem?_map, hsg] at hln
      exact (Option.some.inj hln).symm
    have hok := hseg sg (List.mem_of_getElem? hsg)
    obtain ⟨c1, r1, hc1, hc46⟩ := hok.hd
    have hd100 := hok.dots
    have hl100 := hok.len
    have hll : (lineOf sg).length = sg.1 + sg.2.length := by simp [lineOf]
    subst hl2
    skip
    iterate 18 walk1
    refine PyProof.Rows.len_str (x := mkS (lineOf sg)) (by rw [mkS_len]; lia) ?_
    iterate 12 walk1
    refine KXw.lstripChars (y := mkS sg.2) (by rw [lineOf, hc1]; exact strip_dots hc46) (by rw [mkS_len, sizeLine_eq]; lia) (fun t9 k9 => ?_)
    iterate 1 walk1
    refine PyProof.Rows.len_str (x := mkS sg.2) (by rw [mkS_len]; lia) ?_
    iterate 1 walk1
    have hg1 : 128 + tot < 2 ^ 151 := by
      have e : (2 : Int) ^ 151 = 2854495385411919762116571938898990272765493248 := by decide
      have e2 : (2 : Int) ^ 150 = 1427247692705959881058285969449495136382746624 := by decide
      lia
    refine PyProof.Rows.mul_int ?_ (IntMulOk.of_bits (Nat.le_trans (prod_bits (by lia) hg1 (segs.take j) 1 1 (fun s hs => hseg s (List.mem_of_mem_take hs)) (by decide)) (by rw [List.length_take]; lia)) (Nat.le_trans (fac_bits (g := 128 + tot) (by lia) hg1 hok) (by lia)))
    iterate 3 walk1
    rename Fr _ _ _ _ => F9
    rename News _ _ _ _ => N9
    refine hQt1 _ ?_
    refine LoopEnd.intro F9 N9 (fun p hp => List.mem_append_right _ hp) ?_
    refine ⟨fun y h1 h2 => ?_, ?_, fun p hp => List.mem_append_left _ (hin p hp)⟩
    · dsimp only
      rw [if_neg h2, if_neg h1, if_neg h1, if_neg h2, hm3]
      rfl
    · dsimp only
      rw [if_pos rfl, prodS_succ hsg]
      exact ⟨_, rfl⟩
end Mine
end
section
theorem Mine.startSegG0 : True := by
  w_top off
  trivial
open PySem PySem.Spec PySem.Calls PyProof.Rows PySem.W
set_option maxRecDepth 100000
set_option maxHeartbeats 2000000
namespace Mine
noncomputable abbrev full80 (c : Addr) : Obj := tabObj #[rawInt (81 : Nat), rawInt (4 : Nat), .ref c]
noncomputable abbrev full73 (c : Addr) : Obj := tabObj #[rawInt (66 : Nat), rawInt (4 : Nat), .ref c]
section
variable {h₀ h h' : Heap} {L x c80 c73 : Addr} {m : Str → Option Value} {ox : Obj} {rest : List (Addr × Obj)}
theorem none_low {y : Addr} (F : Fr h₀ L h m) (hy : h.get? y = none) : y ≠ L ∧ h₀.get? y = none := by
  obtain ⟨oL, es, ep, hL, _⟩ := F.ns
  refine ⟨(by rintro rfl; rw [hL] at hy; cases hy), ?_⟩
  cases e : h₀.get? y with
  | none => rfl
  | some o => rw [F.keep _ _ e] at hy; cases hy
theorem fr_two {t80 t73 : Obj} (F : Fr h₀ L h m) (N80 : h.get? 80 = some t80 ∧ (80 : Addr) ≠ L ∧ h₀.get? 80 = none) (N73 : h.get? 73 = some t73 ∧ (73 : Addr) ≠ L ∧ h₀.get? 73 = none)
    (k : ∀ b o, b ≠ 80 → b ≠ 73 → h.get? b = some o → h'.get? b = some o) : Fr h₀ L h' m :=
  ⟨F.ns.at' fun o e => k L o (Ne.symm N80.2.1) (Ne.symm N73.2.1) e, fun b o e => k b o (by rintro rfl; rw [N80.2.2] at e; cases e) (by rintro rfl; rw [N73.2.2] at e; cases e) (F.keep b o e), F.above⟩
theorem div_first (F : Fr h₀ L h m) (N : News h₀ L h ((80, tabObj #[]) :: (73, tabObj #[]) :: rest)) (hr : ∀ p ∈ rest, p.1 ≠ 80 ∧ p.1 ≠ 73)
    (k : ∀ b o, b ≠ 80 → b ≠ 73 → h.get? b = some o → h'.get? b = some o) (G80 : TabFull h' 80 c80 81 4 qD) (O80 : TabOld h #[] c80 81 4) (G73 : TabFull h' 73 c73 66 4 qI) (O73 : TabOld h #[] c73 66 4)
    (hx : h.get? x = none) (hx' : h'.get? x = some ox) :
    Fr h₀ L h' m ∧ c80 ≠ 80 ∧ c73 ≠ 73 ∧ ∃ o80 o73, CodeOb o80 qD ∧ CodeOb o73 qI ∧ News h₀ L h' ((x, ox) :: (80, full80 c80) :: (73, full73 c73) :: (c80, o80) :: (c73, o73) :: rest) := by
  obtain ⟨g1, g2, c', o80, vs, t, e0, e1, e2, e3⟩ := G80
  obtain ⟨f1, f2, d', o73, ws, u, d0, d1, d2, d3⟩ := G73
  cases e0
  cases d0
  refine ⟨fr_two F (N _ (.head _)) (N _ (.tail _ (.head _))) k, g2, f2, o80, o73, ⟨vs, t, e2, e3⟩, ⟨ws, u, d2, d3⟩, fun p hp => ?_⟩
  rcases List.mem_cons.mp hp with rfl | hp
  · exact ⟨hx', none_low F hx⟩
  rcases List.mem_cons.mp hp with rfl | hp
  · exact ⟨g1, (N _ (.head _)).2⟩
  rcases List.mem_cons.mp hp with rfl | hp
  · exact ⟨f1, (N _ (.tail _ (.head _))).2⟩
  rcases List.mem_cons.mp hp with rfl | hp
  · refine ⟨e1, none_low F ?_⟩
    rcases O80 with ⟨_, e⟩ | e
    · exact e
    · simp at e
  rcases List.mem_cons.mp hp with rfl | hp
  · refine ⟨d1, none_low F ?_⟩
    rcases O73 with ⟨_, e⟩ | e
    · exact e
    · simp at e
  have := N p (.tail _ (.tail _ hp))
  exact ⟨k _ _ (hr p hp).1 (hr p hp).2 this.1, this.2⟩
theorem div_later {nw : List (Addr × Obj)} {d80 d73 : Addr} (F : Fr h₀ L h m) (N : News h₀ L h nw) (m80 : (80, full80 c80) ∈ nw) (m73 : (73, full73 c73) ∈ nw)
    (k : ∀ b o, b ≠ 80 → b ≠ 73 → h.get? b = some o → h'.get? b = some o) (G80 : TabFull h' 80 d80 81 4 qD) (O80 : TabOld h #[rawInt (81 : Nat), rawInt (4 : Nat), .ref c80] d80 81 4) (G73 : TabFull h' 73 d73 66 4 qI) (O73 : TabOld h #[rawInt (66 : Nat), rawInt (4 : Nat), .ref c73] d73 66 4)
    (hx : h.get? x = none) (hx' : h'.get? x = some ox) :
    Fr h₀ L h' m ∧ News h₀ L h' ((x, ox) :: nw) := by
  have q80 : d80 = c80 := by
    rcases O80 with ⟨e, _⟩ | e
    · simp at e
    · simpa using e.symm
  have q73 : d73 = c73 := by
    rcases O73 with ⟨e, _⟩ | e
    · simp at e
    · simpa using e.symm
  subst q80
  subst q73
  refine ⟨fr_two F (N _ m80) (N _ m73) k, fun p hp => ?_⟩
  rcases List.mem_cons.mp hp with rfl | hp
  · exact ⟨hx', none_low F hx⟩
  have hN := N p hp
  refine ⟨?_, hN.2⟩
  by_cases h80 : p.1 = 80
  · have e := (N _ m80).1
    rw [← h80, hN.1] at e
    rw [h80, Option.some.inj e]
    exact G80.1
  by_cases h73 : p.1 = 73
  · have e := (N _ m73).1
    rw [← h73, hN.1] at e
    rw [h73, Option.some.inj e]
    exact G73.1
  exact k _ _ h80 h73 hN.1
theorem tab_later {P c : Addr} {line col : Nat} {q : Str} {o : Obj} {nw : List (Addr × Obj)} (N : News h₀ L h nw) (mP : (P, tabObj #[rawInt line, rawInt col, .ref c]) ∈ nw) (mc : (c, o) ∈ nw) (hc : CodeOb o q) (hne : c ≠ P) : TabSt h P #[rawInt line, rawInt col, .ref c] line col q := by
  obtain ⟨vs, t, k1, k2⟩ := hc
  exact ⟨(N _ mP).1, .inr ⟨c, rfl, hne, c, o, vs, t, rfl, (N _ mc).1, k1, k2⟩⟩
end
/-- Newton's form, by Horner -/
noncomputable def evalT (X : Int) : Nat → List Int → Int
  | _, [] => 0
  | j, c :: r => c + (X - j) * evalT X (j + 1) r
end Mine
end
section
theorem Mine.startSegG : True := by
  w_top off
  trivial
open PySem PySem.Spec PySem.Calls PyProof.Rows PySem.W
set_option maxRecDepth 100000
set_option maxHeartbeats 8000000
namespace Mine
theorem tab_ne {L dA : Addr} {dv : List Value} {cdd : Nat} {oD : Obj} {imm : List (Addr × Obj)} {v : Option Value} {ps : Array Value} (him : ∀ p ∈ imm, isLst p.2) (dD : oD.data = .cell v) : ∀ p ∈ (dA, PySem.W.listOf (List.toArray dv) cdd) :: (L + 1, oD) :: imm, p.2.data ≠ (tabObj ps).data := fun p hp => by
  rcases List.mem_cons.mp hp with rfl | hp
  · simp
  rcases List.mem_cons.mp hp with rfl | hp
  · rw [dD]; simp
  obtain ⟨its, c, e⟩ := him p hp
  rw [e]
  simp
theorem notIt_code {o : Obj} {q : Str} (h : CodeOb o q) : notIt o = true := by
  obtain ⟨vs, t, h, h2⟩ := h
  unfold notIt
  rw [h]
  cases o.cls <;> first | rfl | (show isNameV vs[1]? = true; rw [h2]; rfl)
theorem segG : ∀ {w : World} {L fa : Addr} {cd : Value} {R : Flow → Shared → Prop} {E : Value → Shared → Prop} {s : Shared} {h₀ : Heap} {p : Program} {loose : List Str} {mean : ExcName → Option Value} {mg mb : Str → Option Value} {m : Str → Option Value}
    {M : Nat} {tM tG tN : Tok} {X0 num : Int} {dA : Addr} {oD : Obj} {dv : List Value} {cdd : Nat} {imm : List (Addr × Obj)} {H : List (List Int)} {cs : List Int},
    ∀ (X : (Mine.hd.heap_39 w.params).In h₀) (T : Top p loose mean mg mb h₀)
    (F : Fr h₀ L s.heap m) (hm : Has m [(Str.ofString "many", .int M tM), (Str.ofString "great", .int X0 tG), (Str.ofString "number", .int num tN)])
    (N : News h₀ L s.heap ((80, tabObj #[]) :: (73, tabObj #[]) :: (dA, PySem.W.listOf (List.toArray dv) cdd) :: (L + 1, oD) :: imm))
    (dD : oD.data = .cell (some (.ref dA))) (him : ∀ p ∈ imm, isLst p.2)
    (hM1 : 1 ≤ M) (hM : M ≤ 6) (hdv : F2 (IL imm) dv H) (hHl : H.length = M) (hH6 : ∀ h ∈ H, h.length ≤ 6)
    (hX0 : 128 ≤ X0) (hX1 : X0 < 2 ^ 151) (hcl : cs.length = M + 1) (hc : ∀ c ∈ cs, 0 ≤ c ∧ c ≤ 120) (hnum : evalT X0 0 cs = num)
    (hb : ∀ j, j ≤ M → 0 ≤ evalT X0 j (cs.drop j) ∧ evalT X0 j (cs.drop j) < 2 ^ (Builtin.Int.intBits (X0 - (j : Int)) * 16))
    (hsh : sharedNs H = cs)
    (k : ∀ h tk m ps80 ps73, Fr h₀ L h m → h.get? 80 = some (tabObj ps80) → h.get? 73 = some (tabObj ps73) → R (.ret (.bool true)) { s with heap := h, toks := tk }),
    wpAny (model PySem.Challenge.rw_xe0036_01.row.prog w) (lawA L fa cd) (execs (lawDef.1.drop 19) (lawE L fa cd)) R E s := by
  k_fill
  intro w L fa cd R E s h₀ p loose mean mg mb m M tM tG tN X0 num dA oD dv cdd imm H cs X T F hm N dD him hM1 hM hdv hHl hH6 hX0 hX1 hcl hc hnum hb hsh k
  conv in (List.drop _ _) => whnf
  unfold lawA lawE
  conv in lawDef.2 => whnf
  conv in lawDef.2 => whnf
  have hm0 := hm.nf
  rw [hm0] at F
  dsimp only [chain] at F
  have hr : ∀ p ∈ (dA, PySem.W.listOf (List.toArray dv) cdd) :: (L + 1, oD) :: imm, p.1 ≠ 80 ∧ p.1 ≠ 73 := fun p hp =>
    ⟨news_ne (o := p.2) N (.tail _ (.tail _ hp)) mm0 (tab_ne him dD p hp), news_ne (o := p.2) N (.tail _ (.tail _ hp)) mm1 (tab_ne him dD p hp)⟩
  have h80 := (N _ mm0).2.2
  have h73 := (N _ mm1).2.2
  obtain ⟨c0, cr, rfl⟩ : ∃ c r, cs = c :: r := by
    cases cs with
    | nil => simp at hcl
    | cons c r => exact ⟨c, r, rfl⟩
  have hb0 := hb 0 (Nat.zero_le _)
  rw [List.drop_zero, hnum, show X0 - ((0 : Nat) : Int) = X0 by lia] at hb0
  have hc0 := hc c0 (.head _)
  have hn1 : num = c0 + X0 * evalT X0 1 cr := by
    rw [← hnum, evalT, show X0 - ((0 : Nat) : Int) = X0 by lia]
  have hX200 : X0 < 2 ^ 200 := Int.lt_trans hX1 (by decide +kernel)
  have hdiv : num / X0 = evalT X0 1 cr ∧ num % X0 = c0 := by
    rw [hn1, Int.ediv_emod_unique (by lia)]
    exact ⟨rfl, hc0.1, by lia⟩
  iterate 10 walk1
  rename Fr _ _ _ _ => F5
  rename News _ _ _ _ => N5
  refine ⟨X.keeps F5.keep, ?_⟩
  refine divmod_spec (g := h₀) (p := p) (loose := loose) (mean := mean) (mg := mg) (mb := mb) (ps80 := #[]) (ps73 := #[]) X T F5.keep h80 h73 ?c1 ?c2 ?c3 ?c4 ?c5 ?c6 ?c7 ?c8 ?c9 (fun h7 tk7 x t1 t2 c80 c73 hk7 G80 O80 G73 O73 hx hx' => ?_)
  case c1 => exact ⟨(N5 _ mm0).1, .inl rfl⟩
  case c2 => exact ⟨(N5 _ mm1).1, .inl rfl⟩
  case c3 => intro c e; simp at e
  case c4 => lia
  case c5 => exact hX200
  case c6 => exact hb0.1
  case c7 => exact hb0.2
  case c8 => decide
  case c9 => decide
  rw [hdiv.1, hdiv.2] at hx'
  obtain ⟨F7, n80, n73, o80, o73, k80, k73, N7⟩ := div_first F5 N5 hr hk7 G80 O80 G73 O73 hx hx'
  clear F5 N5
  iterate 15 walk1
  rename Fr _ _ _ _ => F8
  rename News _ _ _ _ => N8
  rename Heap => h8
  have hlt8 := news_lt N8
  refine newList_N (by simp) F8 N8 (fun h9 F9 N9' => ?_)
  have N9 := news_sub (b := _ :: (80, full80 c80) :: (73, full73 c73) :: (c80, o80) :: (c73, o73) :: (dA, PySem.W.listOf (List.toArray dv) cdd) :: (L + 1, oD) :: imm) N9' (fun p hp => by
    rcases List.mem_cons.mp hp with rfl | hp
    · exact .head _
    · exact .tail _ (.tail _ hp))
  have hlt8' : ∀ q ∈ (80, full80 c80) :: (73, full73 c73) :: (c80, o80) :: (c73, o73) :: (dA, PySem.W.listOf (List.toArray dv) cdd) :: (L + 1, oD) :: imm, @LT.lt Nat _ q.1 _ := fun q hq => hlt8 q (.tail _ hq)
  generalize h8.objs.size = rA at *
  clear F8 N8 N9' hlt8
  iterate 3 walk1
  refine wpAny_For ?_
  iterate 12 walk1
  rename IsRange _ _ _ _ _ _ _ _ => Rg
  rename Fr _ _ _ _ => F10
  rename News _ _ _ _ => N10
  obtain ⟨m3, hm3⟩ : ∃ m3, m3 = mOf F10 := ⟨_, rfl⟩
  have ⟨hrs, hrm⟩ := up_size (a := 1) (n := M) (b := (M : Int) + 1) (by lia) (by lia) (by lia) (by lia) (by lia)
  have hlt10 := news_lt N10
  have hIt : @LT.lt Nat _ rA _ := hlt10 _ mm0
  have hLn : ∀ vs c, ∀ p ∈ (rA, PySem.W.listOf (List.toArray vs) c) :: (80, full80 c80) :: (73, full73 c73) :: (c80, o80) :: (c73, o73) :: (dA, PySem.W.listOf (List.toArray dv) cdd) :: (L + 1, oD) :: imm, notIt p.2 = true := fun vs c =>
    fa_cons (P := fun p : Addr × Obj => notIt p.2 = true) rfl (fa_cons rfl (fa_cons rfl (fa_cons (notIt_code k80) (fa_cons (notIt_code k73) (fa_cons rfl (fa_cons (notIt_cell dD) fun p hp => (him p hp).notIt))))))
  have hcr : cr.length = M := by simpa using hcl
  refine iterRange_J rfl Rg hrm hrs F10 N10 (fun j m' nw => (∀ y, y ≠ Str.ofString "jars" → y ≠ Str.ofString "quotient" → y ≠ Str.ofString "rest" → m' y = m3 y) ∧ (∃ tq, m' (Str.ofString "quotient") = some (.int (evalT X0 (j + 1) (cr.drop j)) tq)) ∧
    ∃ vs c, (∀ p ∈ (rA, PySem.W.listOf (List.toArray vs) c) :: (80, full80 c80) :: (73, full73 c73) :: (c80, o80) :: (c73, o73) :: (dA, PySem.W.listOf (List.toArray dv) cdd) :: (L + 1, oD) :: imm, p ∈ nw) ∧ IntsAre vs (c0 :: cr.take j)) ?mono ?start ?turn ?done
  case mono =>
    rintro j m' nw nw' ⟨e, e2, vs, c, hin, r⟩ hk
    exact ⟨e, e2, vs, c, fun p hp => hk p (hin p hp) (.inl (hLn vs c p hp)), r⟩
  case start =>
    exact ⟨fun y _ _ _ => by rw [hm3]; rfl, ⟨_, rfl⟩, _, _, fun p hp => hp, .cons _ _ .nil⟩
  case done =>
    rintro m₁ news₁ h tk ⟨hag, ⟨tq, hq⟩, vs, c, hin, hvs⟩ F N
    obtain ⟨a1, a2, a3, rfl⟩ := ag3 hag
    dsimp only at hq
    rw [if_neg (by decide), if_pos rfl] at hq
    subst hq
    rw [hm3] at F
    dsimp only [mOf] at F
    rw [List.drop_of_length_le (by lia), evalT] at F
    rw [List.take_of_length_le (by lia)] at hvs
    have N' : News h₀ L h ((rA, PySem.W.listOf (List.toArray vs) c) :: (80, full80 c80) :: (73, full73 c73) :: (c80, o80) :: (c73, o73) :: (dA, PySem.W.listOf (List.toArray dv) cdd) :: (L + 1, oD) :: imm) := fun p hp => N p (hin p hp)
    clear N
    dsimp only
    iterate 8 walk1
    refine ite_pos (by rfl) ?_
    iterate 9 walk1
    rename Fr _ _ _ _ => F20
    rename News _ _ _ _ => N20
    refine ⟨X.keeps F20.keep, ?_⟩
    refine shared_spec (p := p) (loose := loose) (mean := mean) (mg := mg) (mb := mb) (vh := dv) (hss := H) ?s1 ?s2 ?s3 ?s4 ?s5 ?s6 ?s7 ?s8 (fun h21 tk21 x vs2 c2 hs21 hx21 hx21' hi21 => ?_)
    case s1 => exact X.keeps F20.keep
    case s2 => exact T.keeps F20.keep
    case s3 => exact ⟨_, (N20 _ mm5).1, rfl, _, rfl⟩
    case s4 =>
      refine hdv.mono fun v ns hv => ?_
      obtain ⟨a, us, c', e, hm', hi⟩ := hv
      exact ⟨a, us, e, ⟨_, (N20 _ (List.mem_append_right [_, _, _, _, _, _, _] hm')).1, rfl, _, rfl⟩, hi⟩
    case s5 => lia
    case s6 => exact hH6
    case s7 => decide
    case s8 => decide
    rw [hsh] at hi21
    have F21 := F20.keeps hs21
    have N21 := news_new F20 (N20.grown hs21) hx21 hx21'
    clear F20 N20
    refine eq_intsK (vs := vs) (us := vs2) ⟨_, (N21 _ mm1).1, rfl, _, rfl⟩ hvs ⟨_, (N21 _ mm0).1, rfl, _, rfl⟩ hi21 (by show callerA.units + 3 + 64 < cLine; decide) ?_
    rw [decide_eq_true rfl]
    exact k _ _ _ _ _ F21 (N21 _ mm2).1 (N21 _ mm3).1
  case turn =>
    rintro j tv' m₁ news₁ h tkA own E₁ hj ⟨hag, ⟨tq, hq⟩, vs, c, hin, hvs⟩ ho F N
    refine turn_gen fun Qt1 hQt1 => ?_
    obtain ⟨a1, a2, a3, rfl⟩ := ag3 hag
    dsimp only at hq
    rw [if_neg (by decide), if_pos rfl] at hq
    subst hq
    rw [hm3] at F
    dsimp only [mOf] at F
    obtain ⟨rest, hrest⟩ : ∃ rest, rest = imm ++ own := ⟨_, rfl⟩
    have N' : News h₀ L h ((rA, PySem.W.listOf (List.toArray vs) c) :: (80, full80 c80) :: (73, full73 c73) :: (c80, o80) :: (c73, o73) :: (dA, PySem.W.listOf (List.toArray dv) cdd) :: (L + 1, oD) :: rest) := by
      rw [hrest]
      exact news_re [_, _, _, _, _, _, _] hin N
    clear N
    have e1 : (1 : Int) + (j : Int) * 1 = ((j + 1 : Nat) : Int) := by lia
    rw [e1]
    have hbj := hb (j + 1) (by lia)
    obtain ⟨cj, hcj⟩ : ∃ cj, cr[j]? = some cj := ⟨_, List.getElem?_eq_getElem (by rw [hcr]; exact hj)⟩
    have hcj2 := hc cj (.tail _ (List.mem_of_getElem? hcj))
    have hdr : cr.drop j = cj :: cr.drop (j + 1) := by
      have h1 := (List.getElem?_eq_some_iff.mp hcj)
      rw [List.drop_eq_getElem_cons h1.1, h1.2]
    have hT : evalT X0 (j + 1) (cr.drop j) = cj + (X0 - ((j + 1 : Nat) : Int)) * evalT X0 (j + 1 + 1) (cr.drop (j + 1)) := by rw [hdr, evalT]
    rw [List.drop_succ_cons] at hbj
    have hdiv2 : evalT X0 (j + 1) (cr.drop j) / (X0 - ((j + 1 : Nat) : Int)) = evalT X0 (j + 1 + 1) (cr.drop (j + 1)) ∧ evalT X0 (j + 1) (cr.drop j) % (X0 - ((j + 1 : Nat) : Int)) = cj := by
      rw [Int.ediv_emod_unique (by lia)]
      exact ⟨hT.symm, hcj2.1, by lia⟩
    iterate 15 walk1
    rename Fr _ _ _ _ => F12
    rename News _ _ _ _ => N12
    refine ⟨X.keeps F12.keep, ?_⟩
    refine divmod_spec (g := h₀) (p := p) (loose := loose) (mean := mean) (mg := mg) (mb := mb) (ps80 := #[rawInt (81 : Nat), rawInt (4 : Nat), .ref c80]) (ps73 := #[rawInt (66 : Nat), rawInt (4 : Nat), .ref c73]) X T F12.keep h80 h73 ?d1 ?d2 ?d3 ?d4 ?d5 ?d6 ?d7 ?d8 ?d9 (fun h13 tk13 x t1 t2 d80 d73 hk13 G80 O80 G73 O73 hx hx' => ?_)
    case d1 => exact tab_later N12 mm1 mm3 k80 n80
    case d2 => exact tab_later N12 mm2 mm4 k73 n73
    case d3 =>
      intro c e
      have : c73 = c := by simpa using e
      rw [← this]
      exact (N12 _ mm4).2.2
    case d4 => lia
    case d5 => lia
    case d6 => exact hbj.1
    case d7 => exact hbj.2
    case d8 => decide
    case d9 => decide
    rw [hdiv2.1, hdiv2.2] at hx'
    have hxr : x ≠ rA := by
      rintro rfl
      rw [(N12 _ mm0).1] at hx
      cases hx
    obtain ⟨F13, N13⟩ := div_later F12 N12 mm1 mm2 hk13 G80 O80 G73 O73 hx hx'
    clear F12 N12
    iterate 18 walk1
    rename Fr _ _ _ _ => F14
    rename News _ _ _ _ => N14
    have hrne : ∀ q ∈ (80, full80 c80) :: (73, full73 c73) :: (c80, o80) :: (c73, o73) :: (dA, PySem.W.listOf (List.toArray dv) cdd) :: (L + 1, oD) :: rest, q.1 ≠ rA := fun q hq => by
      rw [hrest] at hq
      rcases List.mem_append.mp (show q ∈ ((80, full80 c80) :: (73, full73 c73) :: (c80, o80) :: (c73, o73) :: (dA, PySem.W.listOf (List.toArray dv) cdd) :: (L + 1, oD) :: imm) ++ own from by
        rcases List.mem_append.mp (show q ∈ [_, _, _, _, _, _] ++ (imm ++ own) from hq) with a | a
        · exact List.mem_append_left own (List.mem_append_left imm a)
        · rcases List.mem_append.mp a with a | a
          · exact List.mem_append_left own (List.mem_append_right [_, _, _, _, _, _] a)
          · exact List.mem_append_right _ a) with a | a
      · exact Nat.ne_of_lt (hlt8' q a)
      · rw [ho q a]; exact Nat.ne_of_gt hIt
    have hvl := hvs.length
    refine append_K F14 N14 (.tail hxr (.head hrne)) (fun h15 F15 N15 => ?_) (by rw [List.size_toArray, sizeLine_eq, hvl, List.length_cons, List.length_take]; lia)
    rw [List.push_toArray] at N15
    clear F14 N14
    iterate 2 walk1
    rename Fr _ _ _ _ => F16
    rename News _ _ _ _ => N16
    rw [hrest] at N16
    refine hQt1 _ ?_
    refine LoopEnd.intro F16 N16 (fun p hp => .tail _ (List.mem_append_right [_, _, _, _, _, _, _] (List.mem_append_right _ hp))) ?_
    refine ⟨fun y h1 h2 h3 => ?agr, ?quo, vs ++ [.int cj t2], c + 1, fun p hp => ?sub, ?its⟩
    case agr =>
      dsimp only
      rw [if_neg h3, if_neg h2, if_neg h1, if_neg h1, if_neg h2, if_neg h3, hm3]
      rfl
    case quo => exact ⟨_, rfl⟩
    case sub =>
      rcases List.mem_append.mp (show p ∈ [_, _, _, _, _, _, _] ++ imm from hp) with hp | hp
      · exact .tail _ (List.mem_append_left _ hp)
      · exact .tail _ (List.mem_append_right [_, _, _, _, _, _, _] (List.mem_append_left _ hp))
    case its =>
      rw [List.take_add_one, hcj]
      exact ints_app hvs (.cons _ _ .nil)
end Mine
end
section
theorem Mine.startSegA : True := by
  w_top off
  trivial
open PySem PySem.Spec PySem.Calls PyProof.Rows PySem.W
set_option maxRecDepth 100000
set_option maxHeartbeats 8000000
namespace Mine
noncomputable def vsOf {vs : List Value} {ns : List Int} (_ : IntsAre vs ns) : List Value := vs
noncomputable def nsOf {vs : List Value} {ns : List Int} (_ : IntsAre vs ns) : List Int := ns
noncomputable def numsL (script : List Int) : List Int := (script.take 60).map (fun x => x % 10 ^ 40) ++ ([0, 1, 1, 2, 0] : List Int).drop (script.take 60).length
theorem segA : ∀ {w : World} {L fa : Addr} {cd : Value} {R : Flow → Shared → Prop} {E : Value → Shared → Prop} {s : Shared} {h₀ : Heap} {p : Program} {loose : List Str} {mean : ExcName → Option Value} {mg mb : Str → Option Value} {m : Str → Option Value}
    {sa : Addr} {svs : List Value} {script : List Int} {oR oH oD : Obj},
    ∀ (X : (Mine.hd.heap_39 w.params).In h₀) (T : Top p loose mean mg mb h₀)
    (F : Fr h₀ L s.heap m) (hm : Has m [(Str.ofString "script", .ref sa)])
    (N : News h₀ L s.heap [(L + 1 + 1 + 1, oR), (L + 1 + 1, oH), (L + 1, oD), (80, tabObj #[]), (73, tabObj #[])])
    (dR : oR.data = .cell none) (dH : oH.data = .cell none) (dD : oD.data = .cell none)
    (hsl : h₀.IsList sa svs.toArray) (hsi : IntsAre svs script) (hs63 : script.length ≤ 63) (l80 : @LT.lt Nat _ 80 L ∧ @LT.lt Nat _ 73 L)
    (k : ∀ h tk m M tM tT nA tA pA lA hA dA nv tv cn ct oH' oD', Fr h₀ L h m → Has m [(Str.ofString "many", .int (M : Nat) tM), (Str.ofString "numbers", .ref nA), (Str.ofString "total", .int (numsL script).sum tT), (Str.ofString "tails", .ref tA), (Str.ofString "parents", .ref pA), (Str.ofString "labels", .ref lA)] →
      News h₀ L h [(hA, PySem.W.listOf #[] 0), (lA, PySem.W.listOf #[] 0), (dA, PySem.W.listOf #[] 0), (pA, PySem.W.listOf #[] 0), (tA, PySem.W.listOf (List.toArray tv) ct), (nA, PySem.W.listOf (List.toArray nv) cn), (L + 1 + 1 + 1, oR), (L + 1 + 1, oH'), (L + 1, oD'), (80, tabObj #[]), (73, tabObj #[])] →
      oH'.data = .cell (some (.ref hA)) → oD'.data = .cell (some (.ref dA)) → IntsAre nv (numsL script) → F2 strV tv tailsL → (M = 5 ∨ M = 6) → (M = 6 → 5 < script.length) →
      (@LT.lt Nat _ (L + 1 + 1 + 1) nA ∧ @LT.lt Nat _ nA tA ∧ @LT.lt Nat _ tA pA ∧ @LT.lt Nat _ pA dA ∧ @LT.lt Nat _ dA lA ∧ @LT.lt Nat _ lA hA ∧ @LT.lt Nat _ 80 L ∧ @LT.lt Nat _ 73 L) →
      wpAny (model PySem.Challenge.rw_xe0036_01.row.prog w) (lawA L fa cd) (execs (lawDef.1.drop 9) (lawE L fa cd)) R E { s with heap := h, toks := tk }),
    wpAny (model PySem.Challenge.rw_xe0036_01.row.prog w) (lawA L fa cd) (execs lawDef.1 (lawE L fa cd)) R E s := by
  k_fill
  intro w L fa cd R E s h₀ p loose mean mg mb m sa svs script oR oH oD X T F hm N dR dH dD hsl hsi hs63 l80 k
  conv at k in (List.drop _ _) => whnf
  unfold lawA lawE at k ⊢
  conv at k in lawDef.2 => whnf
  conv at k in lawDef.2 => whnf
  conv in lawDef.1 => whnf
  conv in lawDef.2 => whnf
  conv in lawDef.2 => whnf
  have hm0 := hm.nf
  rw [hm0] at F
  dsimp only [chain] at F
  iterate 2 walk1
  refine wpAny_mono (Q := fun v s' => ∃ (M : Nat) (t : Tok) (tk : Nat), v = .int M t ∧ (M = 5 ∨ M = 6) ∧ (M = 6 → 5 < script.length) ∧ s' = { s with toks := tk }) ?mv (fun v s' hv => ?rest) (fun _ _ e => e)
  case mv =>
    iterate 12 walk1
    by_cases h5 : 5 < script.length
    · refine ite_pos (by simp; lia) ?_
      walk1
      exact ⟨6, _, _, rfl, .inr rfl, fun _ => h5, rfl⟩
    · refine ite_neg (by simp; lia) ?_
      walk1
      exact ⟨5, _, _, rfl, .inl rfl, fun e => (by cases e), rfl⟩
  case rest =>
    obtain ⟨M, tM, tk₂, rfl, hM, hM6, rfl⟩ := hv
    iterate 2 walk1
    rename Fr _ _ _ _ => F1
    refine LCg.Assign_ListComp_U (F₀ := F1) (by rfl) (by with_unfolding_all rfl) (by with_unfolding_all rfl) (by decide) (by rfl) (by decide) (by rfl) (by rfl) (by rfl) ?_
    iterate 8 walk1
    rename Fr _ _ _ _ => F2
    rename News _ _ _ _ => N2
    rename IntsAre _ _ => I2
    have hI2l := I2.length
    have hI2m : (script.take 60).length ≤ 60 := by rw [List.length_take]; lia
    refine LCg.CompSrc.ledger (by rfl) F2 N2 mm0 (by rw [List.size_toArray, sizeLine_eq]; lia) ?_
    intro g2
    refine rest_J (fun j ys nw => nw = _ ∧ IntsAre ys (((script.take 60).take j).map fun x => x % 10 ^ 40)) ⟨rfl, .nil⟩ ?nturn ?nfin
    case nturn =>
      rintro j v I oI C oC D2 m₂ ys nw h9 tk9 E₉ hj hv ⟨rfl, hys⟩ hC hx F₉ N₉ off ne
      refine comp_gen fun Qc1 hQc1 => ?_
      obtain ⟨x1, t1, rfl, hx1⟩ := ints_at I2 (by simpa using hv)
      iterate 7 walk1
      refine hQc1 _ _ ?_
      refine LCg.CompEnd.intro F₉ N₉ _ (fun p hp => hp) off ?sx ⟨rfl, ?_⟩
      case sx => exact Or.inr ⟨_, mm0, rfl, _, rfl⟩
      rw [List.take_add_one, hx1, List.map_append]
      refine ints_app hys ?_
      rw [Int.fmod_eq_emod_of_nonneg _ (Int.pow_nonneg (by decide))]
      exact .cons _ _ .nil
    case nfin =>
      rintro ys nw ⟨rfl, hys⟩
      unfold LCg.FinA
      intro D2 h7 tk7 F7 N7 off7
      have hysl := hys.length
      rw [List.take_of_length_le (by rw [List.size_toArray]; lia)] at hys hysl
      rw [List.length_map] at hysl
      iterate 26 walk1
      rename_i aL hL4 F8 N8 ol8
      refine len_list (items := ys.toArray) ⟨_, (N8 _ mm1).1, rfl, _, rfl⟩ (by rw [List.size_toArray]; lia) ?_
      iterate 2 walk1
      refine kba_turn (value' := PySem.Expr.Name (PySem.Str.ofString "_") ⟨0, 0, 0, 0⟩) (fun _ => rfl) ?_
      refine slice_list3 (lo := some (ys.toArray.size : Int)) (hi := none) (st := none) F8 N8 ⟨_, (N8 _ mm0).1, rfl, _, rfl⟩ (.int _ _) .none .none (by simp) (fun h10 F10 N10 => ?_) (hsz := by rw [sizeLine_eq]; simp)
      rw [slicePick_from'] at N10
      dsimp only at F10 N10 ⊢
      generalize hL4.objs.size + 1 = aS at *
      clear F8 N8
      refine add_lists_ints F10 N10 ⟨_, (N10 _ mm2).1, rfl, _, rfl⟩ ⟨_, (N10 _ mm0).1, rfl, _, rfl⟩ hys (IntsAre.drop (.cons 0 _ (.cons 1 _ (.cons 1 _ (.cons 2 _ (.cons 0 _ .nil))))) _) (fun h11 F11 N11 hns => ?_) (by rw [sizeLine_eq, List.length_drop]; simp; lia)
      have hlt10 := news_lt N10
      dsimp only at F11 N11 hlt10 ⊢
      generalize h10.objs.size = nA at *
      clear F10 N10
      have lnA : @LT.lt Nat _ (L + 1 + 1 + 1) nA ∧ @LT.lt Nat _ (L + 1 + 1) nA ∧ @LT.lt Nat _ (L + 1) nA ∧ @LT.lt Nat _ 80 nA ∧ @LT.lt Nat _ 73 nA := ⟨hlt10 _ mm4, hlt10 _ mm5, hlt10 _ mm6, hlt10 _ mm7, hlt10 _ mm8⟩
      have N12 := drop_four N11
      clear N11 hlt10
      have hnum : numsL script = nsOf hns := by
        unfold numsL nsOf
        have e : ys.toArray.size = (script.take 60).length := by rw [List.size_toArray]; exact hysl
        rw [e]
      obtain ⟨nv, hnv⟩ : ∃ nv, nv = vsOf hns := ⟨_, rfl⟩
      have hnl : IntsAre (vsOf hns) (nsOf hns) := hns
      rw [← hnum, ← hnv] at hnl
      dsimp only [vsOf] at hnv
      rw [← hnv] at N12
      clear hnum hns hnv hys
      have hnlQ : True → IntsAre nv (numsL script) := fun _ => hnl
      iterate 11 walk1
      rename Tok => tSum
      iterate 14 walk1
      rename Fr _ _ _ _ => F20
      rename News _ _ _ _ => N20
      rename Heap => h20
      have hlt20 := news_lt N20
      refine newList_N (by simp) F20 N20 (fun h21 F21 N21 => ?_)
      dsimp only at F21 N21 ⊢
      generalize h20.objs.size = tA at *
      clear F20 N20
      have l1 : @LT.lt Nat _ nA tA := hlt20 _ mm0
      clear hlt20
      iterate 6 walk1
      rename Fr _ _ _ _ => F22
      rename News _ _ _ _ => N22
      rename Heap => h22
      have hlt22 := news_lt N22
      refine newList_N (vs := []) (by simp) F22 N22 (fun h23 F23 N23 => ?_)
      dsimp only at F23 N23 ⊢
      generalize h22.objs.size = pA at *
      clear F22 N22
      have l2 : @LT.lt Nat _ tA pA := hlt22 _ mm0
      clear hlt22
      iterate 6 walk1
      rename Fr _ _ _ _ => F24
      rename News _ _ _ _ => N24
      rename Heap => h24
      have hlt24 := news_lt N24
      refine newList_N (vs := []) (by simp) F24 N24 (fun h25 F25 N25 => ?_)
      dsimp only at F25 N25 ⊢
      generalize h24.objs.size = dA at *
      clear F24 N24
      have l3 : @LT.lt Nat _ pA dA := hlt24 _ mm0
      clear hlt24
      iterate 6 walk1
      rename Fr _ _ _ _ => F26
      rename News _ _ _ _ => N26
      rename Obj => oD'
      rename oD'.data = _ => dD'
      rename Heap => h26
      have hlt26 := news_lt N26
      refine newList_N (vs := []) (by simp) F26 N26 (fun h27 F27 N27 => ?_)
      dsimp only at F27 N27 ⊢
      generalize h26.objs.size = lA at *
      clear F26 N26
      have l4 : @LT.lt Nat _ dA lA := hlt26 _ mm0
      clear hlt26
      iterate 6 walk1
      rename Fr _ _ _ _ => F28
      rename News _ _ _ _ => N28
      rename Heap => h28
      have hlt28 := news_lt N28
      refine newList_N (vs := []) (by simp) F28 N28 (fun h29 F29 N29 => ?_)
      dsimp only at F29 N29 ⊢
      generalize h28.objs.size = hA at *
      clear F28 N28
      have l5 : @LT.lt Nat _ lA hA := hlt28 _ mm0
      clear hlt28
      iterate 2 walk1
      rename Fr _ _ _ _ => F30
      rename News _ _ _ _ => N30
      rename Obj => oH'
      rename oH'.data = _ => dH'
      refine k _ _ _ M tM tSum nA tA pA lA hA dA nv _ _ _ oH' oD' F30 ?has N30 dH' dD' hnl ?tails hM hM6 ⟨by lia, l1, l2, l3, l4, l5, l80.1, l80.2⟩
      case has => exact has_cons rfl (has_cons rfl (has_cons rfl (has_cons rfl (has_cons rfl (has_cons rfl has_nil)))))
      case tails => exact .cons ⟨_, rfl⟩ (.cons ⟨_, rfl⟩ (.cons ⟨_, rfl⟩ (.cons ⟨_, rfl⟩ .nil)))
end Mine
end
section
theorem Mine.startMathSh : True := by
  w_top off
  trivial
open PySem PySem.Spec PySem.Calls PyProof.Rows PySem.W
set_option maxRecDepth 100000
namespace Mine
noncomputable def ff (X : Int) : Nat → Int
  | 0 => 1
  | j + 1 => ff X j * (X - j)
noncomputable def polyS (X : Int) : Nat → List Int → Int
  | _, [] => 0
  | j, c :: r => c * ff X j + polyS X (j + 1) r
theorem polyS_eval (X : Int) : ∀ (cs : List Int) (j : Nat), polyS X j cs = ff X j * evalT X j cs
  | [], _ => by simp [polyS, evalT]
  | c :: r, j => by
    rw [polyS, evalT, polyS_eval X r (j + 1), ff, Int.mul_add, Int.mul_assoc, Int.mul_comm c]
theorem polyS_add (X : Int) (x : Nat) : ∀ (n a : Nat) (g : Nat → Int), polyS X a ((List.range' a n).map fun j => g j + if j = x then 1 else 0) = polyS X a ((List.range' a n).map g) + if a ≤ x ∧ x < a + n then ff X x else 0
  | 0, a, g => by
    rw [if_neg (by lia)]
    simp [polyS]
  | n + 1, a, g => by
    have ih := polyS_add X x n (a + 1) g
    rw [List.range'_succ, List.map_cons, List.map_cons, polyS, polyS, ih]
    by_cases h : a = x
    · subst h
      rw [if_pos rfl, if_neg (by lia), if_pos (by lia), Int.add_mul, Int.one_mul]
      lia
    · rw [if_neg h]
      by_cases h2 : a + 1 ≤ x ∧ x < a + 1 + n
      · rw [if_pos h2, if_pos (by lia), Int.add_zero]
        lia
      · rw [if_neg h2, if_neg (by lia), Int.add_zero]
        lia
theorem polyS_counts (X : Int) (n : Nat) : ∀ (l : List Nat), (∀ x ∈ l, x < n) → polyS X 0 ((List.range n).map fun j => (l.count j : Int)) = (l.map (ff X)).sum
  | [], _ => by
    have : ∀ (m a : Nat), polyS X a ((List.range' a m).map fun _ => (0 : Int)) = 0 := by
      intro m
      induction m with
      | zero => intro a; rfl
      | succ m ih =>
        intro a
        rw [List.range'_succ, List.map_cons, polyS, ih, Int.zero_mul]
        rfl
    simpa [List.range_eq_range'] using this n 0
  | x :: l, h => by
    have ih := polyS_counts X n l fun y hy => h y (.tail _ hy)
    have e : (fun j => (((x :: l).count j : Nat) : Int)) = fun j => (l.count j : Int) + if j = x then 1 else 0 := by
      funext j
      rw [List.count_cons]
      by_cases hj : j = x
      · rw [if_pos hj, if_pos (by simp [hj])]; rfl
      · rw [if_neg hj, if_neg (by simp; lia)]; simp
    have hx := h x (.head _)
    rw [e, List.range_eq_range', polyS_add, if_pos (by lia), ← List.range_eq_range', ih, List.map_cons, List.sum_cons, Int.add_comm]
/-- the sum over the ways -/
noncomputable def waySum (X : Int) (ws : List (List (List Int))) : Int := (ws.map fun w => ff X w.length).sum
theorem waySum_append (X : Int) (a b : List (List (List Int))) : waySum X (a ++ b) = waySum X a + waySum X b := by simp [waySum]
theorem shared_eval (X : Int) (H : List (List Int)) : evalT X 0 (sharedNs H) = waySum X (waysAt H H.length) := by
  have h1 := polyS_eval X (sharedNs H) 0
  rw [show ff X 0 = 1 from rfl, Int.one_mul] at h1
  rw [← h1]
  unfold sharedNs
  rw [polyS_counts X (H.length + 1) ((waysAt H H.length).map List.length) fun x hx => by
    obtain ⟨w, hw, rfl⟩ := List.mem_map.mp hx
    have := (ways_len H H.length).1 w hw
    lia]
  rw [List.map_map]
  rfl
theorem places_len (H : List Int) (one : Int) (way : List (List Int)) : ∀ n, n ≤ way.length → (atPlaces H one way n).length = (way.take n).countP fun jar => (jar.filter fun x => H.contains x).isEmpty
  | 0, _ => by simp [atPlaces]
  | n + 1, h => by
    have ih := places_len H one way n (by lia)
    have hn : n < way.length := by lia
    have e : way.getD n [] = way[n] := by rw [List.getD_eq_getElem?_getD, List.getElem?_eq_getElem hn]; rfl
    simp only [atPlaces, List.length_append, ih]
    rw [List.take_add_one, List.getElem?_eq_getElem hn, List.countP_append, e]
    rw [show (some way[n]).toList = [way[n]] from rfl, List.countP_singleton]
    by_cases hf : way[n].filter (fun x => H.contains x) = []
    · rw [if_pos hf, hf]
      rfl
    · rw [if_neg hf]
      cases hq : way[n].filter (fun x => H.contains x) with
      | nil => exact absurd hq hf
      | cons a r => rfl
theorem sum_const {l : List (List (List Int))} {X : Int} {n : Nat} (h : ∀ w ∈ l, w.length = n) : waySum X l = (l.length : Int) * ff X n := by
  induction l with
  | nil => simp [waySum]
  | cons w r ih =>
    have ih := ih fun w hw => h w (.tail _ hw)
    have e : waySum X (w :: r) = ff X w.length + waySum X r := by simp [waySum]
    rw [e, ih, h w (.head _), List.length_cons]
    have : ((r.length + 1 : Nat) : Int) = (r.length : Int) + 1 := by lia
    rw [this, Int.add_mul, Int.one_mul, Int.add_comm]
theorem countP_split {α : Type} (p : α → Bool) : ∀ l : List α, l.countP p + l.countP (fun x => !p x) = l.length
  | [] => rfl
  | a :: r => by
    have := countP_split p r
    rw [List.countP_cons, List.countP_cons, List.length_cons]
    cases p a <;> simp <;> lia
/-- one way grows -/
theorem grow_sum {H : List Int} {one : Int} {way : List (List Int)} {X : Int} {d : Nat} (hd : way.countP (fun jar => !(jar.filter fun x => H.contains x).isEmpty) = d) :
    waySum X (growOne H one way) = (X - d) * ff X way.length := by
  have h1 := places_len H one way way.length (Nat.le_refl _)
  rw [List.take_length] at h1
  have h2 := countP_split (fun jar : List Int => (jar.filter fun x => H.contains x).isEmpty) way
  have h3 := sum_const (X := X) (atPlaces_mem (H := H) (one := one) (way := way) way.length (Nat.le_refl _))
  have e : waySum X (growOne H one way) = ff X (way.length + 1) + waySum X (atPlaces H one way way.length) := by simp [waySum, growOne]
  rw [e, h3, ff]
  have h4 : ((atPlaces H one way way.length).length : Int) = (way.length : Int) - d := by lia
  rw [h4]
  have : ff X way.length * (X - (way.length : Int)) = (X - (way.length : Int)) * ff X way.length := Int.mul_comm _ _
  rw [this, ← Int.add_mul]
  congr 1
  lia
theorem growAll_sum {H : List Int} {one : Int} {X : Int} {d : Nat} : ∀ (ws : List (List (List Int))), (∀ w ∈ ws, w.countP (fun jar => !(jar.filter fun x => H.contains x).isEmpty) = d) → waySum X (growAll H one ws) = (X - d) * waySum X ws
  | [], _ => by simp [growAll, waySum]
  | w :: r, h => by
    have ih := growAll_sum (H := H) (one := one) (X := X) r fun w hw => h w (.tail _ hw)
    have e1 : growAll H one (w :: r) = growOne H one w ++ growAll H one r := by simp [growAll]
    have e2 : waySum X (w :: r) = ff X w.length + waySum X r := by simp [waySum]
    rw [e1, waySum_append, ih, grow_sum (h w (.head _)), e2, Int.mul_add]
/-- what is kept of a way -/
structure WayOk (H : List (List Int)) (k : Nat) (w : List (List Int)) : Prop where
  perm : w.flatten.Perm ((List.range k).map fun i : Nat => (i : Int))
  inc : ∀ jar ∈ w, jar.Pairwise (fun a b => a < b ∧ a ∉ H.getD b.toNat [])
theorem places_mem {H : List Int} {one : Int} {way : List (List Int)} : ∀ n, n ≤ way.length → ∀ w ∈ atPlaces H one way n, ∃ a jar b, way = a ++ jar :: b ∧ (jar.filter fun x => H.contains x) = [] ∧ w = a ++ (jar ++ [one]) :: b
  | 0, _, w, h => by simp [atPlaces] at h
  | n + 1, hn, w, h => by
    simp only [atPlaces] at h
    rcases List.mem_append.mp h with h | h
    · exact places_mem n (by lia) w h
    · split at h
      · rename_i hf
        have hlt : n < way.length := by lia
        have e : way.getD n [] = way[n] := by rw [List.getD_eq_getElem?_getD, List.getElem?_eq_getElem hlt]; rfl
        rw [e] at h hf
        refine ⟨way.take n, way[n], way.drop (n + 1), ?_, hf, ?_⟩
        · rw [← List.drop_eq_getElem_cons hlt, List.take_append_drop]
        · have := List.mem_singleton.mp h
          rw [this]
          simp
      · cases h
theorem range_succ_int (k : Nat) : (List.range (k + 1)).map (fun i : Nat => (i : Int)) = (List.range k).map (fun i : Nat => (i : Int)) ++ [(k : Int)] := by simp [List.range_succ]
theorem WayOk.grow {H : List (List Int)} {k : Nat} {w : List (List Int)} (h : WayOk H k w) : ∀ w' ∈ growOne (H.getD k []) (k : Int) w, WayOk H (k + 1) w' := by
  have hlt : ∀ jar ∈ w, ∀ a ∈ jar, a < (k : Int) := fun jar hj a ha => by
    have hm : a ∈ w.flatten := List.mem_flatten.mpr ⟨jar, hj, ha⟩
    have := h.perm.mem_iff.mp hm
    obtain ⟨i, hi, rfl⟩ := List.mem_map.mp this
    have := List.mem_range.mp hi
    lia
  intro w' hw'
  rcases List.mem_cons.mp hw' with rfl | hw'
  · refine ⟨?_, fun jar hj => ?_⟩
    · rw [List.flatten_append, range_succ_int]
      exact h.perm.append_right _
    · rcases List.mem_append.mp hj with hj | hj
      · exact h.inc jar hj
      · rw [List.mem_singleton.mp hj]
        exact List.pairwise_singleton _ _
  · obtain ⟨a, jar, b, rfl, hf, rfl⟩ := places_mem _ (Nat.le_refl _) w' hw'
    refine ⟨?_, fun j hj => ?_⟩
    · rw [range_succ_int]
      refine List.Perm.trans ?_ (h.perm.append_right _)
      simp only [List.flatten_append, List.flatten_cons, List.append_assoc]
      refine List.Perm.append_left _ (List.Perm.append_left _ ?_)
      exact List.perm_append_comm
    · rcases List.mem_append.mp hj with hj | hj
      · exact h.inc j (List.mem_append_left _ hj)
      rcases List.mem_cons.mp hj with rfl | hj
      · rw [List.pairwise_append]
        refine ⟨h.inc jar (List.mem_append_right _ (.head _)), List.pairwise_singleton _ _, fun x hx y hy => ?_⟩
        rw [List.mem_singleton.mp hy]
        refine ⟨hlt jar (List.mem_append_right _ (.head _)) x hx, fun hc => ?_⟩
        rw [Int.toNat_natCast] at hc
        have := List.filter_eq_nil_iff.mp hf x hx
        exact this (by simpa using hc)
      · exact h.inc j (List.mem_append_right _ (.tail _ hj))
theorem ways_ok (H : List (List Int)) : ∀ k, ∀ w ∈ waysAt H k, WayOk H k w
  | 0, w, h => by
    have : w = [] := by simpa [waysAt] using h
    subst this
    exact ⟨by simp, fun j hj => by cases hj⟩
  | k + 1, w, h => by
    simp only [waysAt, growAll, List.mem_flatMap] at h
    obtain ⟨v, hv, hw⟩ := h
    exact (ways_ok H k v hv).grow w hw
section
variable {M : Nat} {O : List (List Nat)} {H : List (List Int)}
theorem Fam.chain (K : Fam M O H) : ∀ k, k < M → ∀ a ∈ H.getD k [], ∀ b ∈ H.getD k [], a < b → a ∈ H.getD b.toNat [] := by
  intro k
  induction k using Nat.strongRecOn with
  | _ k ih =>
    intro hk a ha b hb hab
    obtain ⟨l, _, h⟩ := K.node k hk
    rcases h with ⟨e, _⟩ | ⟨p, hp, e, _⟩
    · rw [e] at ha; cases ha
    · rw [e] at ha hb
      rcases List.mem_append.mp hb with hb | hb
      · rcases List.mem_append.mp ha with ha | ha
        · exact ih p hp (by lia) a ha b hb hab
        · obtain ⟨q, e1, hq⟩ := K.hold p (by lia) b hb
          have := List.mem_singleton.mp ha
          lia
      · have hb2 := List.mem_singleton.mp hb
        rw [hb2, Int.toNat_natCast]
        rcases List.mem_append.mp ha with ha | ha
        · exact ha
        · have := List.mem_singleton.mp ha
          lia
theorem count_range_snoc {h : List Int} {x : Nat} (hx : (x : Int) ∉ h) : ∀ n, ((List.range n).map fun i : Nat => (i : Int)).countP (fun y => (h ++ [(x : Int)]).contains y) = ((List.range n).map fun i : Nat => (i : Int)).countP (fun y => h.contains y) + if x < n then 1 else 0
  | 0 => by simp
  | n + 1 => by
    have ih := count_range_snoc hx n
    rw [range_succ_int, List.countP_append, List.countP_append, ih]
    simp only [List.countP_singleton]
    by_cases hn : x = n
    · subst hn
      have h1 : (h ++ [(x : Int)]).contains (x : Int) = true := by simp
      have h2 : h.contains (x : Int) = false := by simpa using hx
      rw [h1, h2, if_neg (show ¬ x < x by lia), if_pos (show x < x + 1 by lia)]
      simp
    · have h1 : (h ++ [(x : Int)]).contains (n : Int) = h.contains (n : Int) := by
        have hne : ¬ (n : Int) = (x : Int) := by lia
        simp [hne]
      rw [h1]
      by_cases hl : x < n
      · rw [if_pos hl, if_pos (show x < n + 1 by lia)]; lia
      · rw [if_neg hl, if_neg (show ¬ x < n + 1 by lia)]; lia
theorem Fam.count (K : Fam M O H) : ∀ k, k < M → ∀ n, k ≤ n → ((List.range n).map fun i : Nat => (i : Int)).countP (fun y => (H.getD k []).contains y) = (H.getD k []).length := by
  intro k
  induction k using Nat.strongRecOn with
  | _ k ih =>
    intro hk n hn
    obtain ⟨l, _, h⟩ := K.node k hk
    rcases h with ⟨e, _⟩ | ⟨p, hp, e, _⟩
    · rw [e]; simp
    · rw [e, count_range_snoc (fun hm => by
        obtain ⟨q, e1, hq⟩ := K.hold p (by lia) _ hm
        lia), ih p hp (by lia) n (by lia), if_pos (by lia), List.length_append, List.length_singleton]
theorem one_held {h : List Int} {jar : List Int} (hc : ∀ a ∈ h, ∀ b ∈ h, a < b → a ∈ H.getD b.toNat []) (hj : jar.Pairwise (fun a b => a < b ∧ a ∉ H.getD b.toNat [])) : (jar.filter fun x => h.contains x).length ≤ 1 := by
  have hp := hj.filter (fun x => h.contains x)
  have hm : ∀ x ∈ jar.filter (fun x => h.contains x), x ∈ h := fun x hx => by simpa using (List.mem_filter.mp hx).2
  generalize jar.filter (fun x => h.contains x) = l at hp hm
  match l, hp, hm with
  | [], _, _ => simp
  | [_], _, _ => simp
  | a :: b :: r, hp, hm =>
    exfalso
    have := (List.pairwise_cons.mp hp).1 b (.head _)
    exact this.2 (hc a (hm a (.head _)) b (hm b (.tail _ (.head _))) this.1)
theorem held_sum {h : List Int} : ∀ (w : List (List Int)), (∀ jar ∈ w, (jar.filter fun x => h.contains x).length ≤ 1) → w.countP (fun jar => !(jar.filter fun x => h.contains x).isEmpty) = w.flatten.countP (fun x => h.contains x)
  | [], _ => rfl
  | j :: r, hw => by
    have ih := held_sum r fun jar hj => hw jar (.tail _ hj)
    have h1 := hw j (.head _)
    rw [List.countP_cons, ih, List.flatten_cons, List.countP_append, List.countP_eq_length_filter (l := j)]
    generalize j.filter (fun x => h.contains x) = l at h1
    match l, h1 with
    | [], _ => simp
    | [_], _ => simp; lia
    | _ :: _ :: _, h1 => simp at h1
theorem Fam.sums (K : Fam M O H) (X : Int) : ∀ k, k ≤ M → waySum X (waysAt H k) = ((List.range k).map fun i => X - ((H.getD i []).length : Int)).foldl (· * ·) 1
  | 0, _ => by simp [waysAt, waySum, ff]
  | k + 1, hk => by
    have ih := K.sums X k (by lia)
    rw [waysAt, growAll_sum (d := (H.getD k []).length) (waysAt H k) fun w hw => ?_, ih, List.range_succ, List.map_append, List.foldl_append, Int.mul_comm]
    · rfl
    · have ok := ways_ok H k w hw
      rw [held_sum w fun jar hj => one_held (K.chain k (by lia)) (ok.inc jar hj), ok.perm.countP_eq]
      exact K.count k (by lia) k (Nat.le_refl _)
theorem Fam.shared (K : Fam M O H) (X : Int) : evalT X 0 (sharedNs H) = ((List.range M).map fun i => X - ((H.getD i []).length : Int)).foldl (· * ·) 1 := by
  rw [shared_eval, K.lenH]
  exact K.sums X M (Nat.le_refl _)
end
/-- Stirling's numbers bound the ways -/
noncomputable def stir : Nat → Nat → Nat
  | 0, j => if j = 0 then 1 else 0
  | k + 1, j => (if j = 0 then 0 else stir k (j - 1)) + j * stir k j
theorem count_const : ∀ (l : List Nat) (n j : Nat), (∀ x ∈ l, x = n) → l.count j = if n = j then l.length else 0
  | [], n, j, _ => by simp
  | x :: r, n, j, h => by
    have ih := count_const r n j fun y hy => h y (.tail _ hy)
    have hx := h x (.head _)
    subst hx
    rw [List.count_cons, ih, List.length_cons]
    by_cases e : x = j
    · simp [e]
    · simp [e]
theorem stir_grow (H : List Int) (one : Int) (j : Nat) : ∀ ws : List (List (List Int)), ((growAll H one ws).map List.length).count j ≤ (if j = 0 then 0 else (ws.map List.length).count (j - 1)) + j * (ws.map List.length).count j
  | [] => by simp [growAll]
  | w :: r => by
    have ih := stir_grow H one j r
    have e1 : growAll H one (w :: r) = growOne H one w ++ growAll H one r := by simp [growAll]
    have hl := atPlaces_len (H := H) (one := one) (way := w) w.length
    have hc := count_const ((atPlaces H one w w.length).map List.length) w.length j (fun x hx => by
      obtain ⟨v, hv, rfl⟩ := List.mem_map.mp hx
      exact atPlaces_mem _ (Nat.le_refl _) v hv)
    have e2 : (growOne H one w).map List.length = (w.length + 1) :: (atPlaces H one w w.length).map List.length := by simp [growOne]
    rw [e1, List.map_append, List.count_append, e2, List.count_cons, hc, List.length_map, List.map_cons, List.count_cons, List.count_cons]
    simp only [beq_iff_eq]
    by_cases h0 : j = 0
    · subst h0
      simp at ih ⊢
      refine ⟨fun hw => ?_, ih⟩
      subst hw
      rfl
    · simp only [if_neg h0] at ih ⊢
      by_cases hj : w.length = j
      · simp only [if_pos hj, if_neg (show ¬ w.length + 1 = j by lia), if_neg (show ¬ w.length = j - 1 by lia), Nat.mul_add, Nat.mul_one, Nat.add_zero, Nat.zero_add]
        lia
      · simp only [if_neg hj, Nat.add_zero, Nat.zero_add]
        by_cases hj2 : w.length + 1 = j
        · simp only [if_pos hj2, if_pos (show w.length = j - 1 by lia)]
          lia
        · simp only [if_neg hj2, if_neg (show ¬ w.length = j - 1 by lia), Nat.add_zero, Nat.zero_add]
          lia
theorem stir_bound (H : List (List Int)) : ∀ k j, ((waysAt H k).map List.length).count j ≤ stir k j
  | 0, j => by
    simp only [waysAt, List.map_cons, List.map_nil, stir, List.length_nil]
    rw [List.count_cons]
    by_cases h : j = 0
    · simp [h]
    · have : ¬ (0 = j) := by lia
      simp [h, this]
  | k + 1, j => by
    have h1 := stir_bound H k j
    have h2 := stir_bound H k (j - 1)
    have h3 := stir_grow (H.getD k []) (k : Int) j (waysAt H k)
    rw [waysAt, stir]
    refine Nat.le_trans h3 (Nat.add_le_add ?_ (Nat.mul_le_mul_left _ h1))
    split
    · exact Nat.le_refl _
    · exact h2
theorem stir_small : ∀ k, k ≤ 6 → ∀ j, j ≤ 6 → stir k j ≤ 90 := by decide +kernel
theorem shared_small {H : List (List Int)} (h : H.length ≤ 6) : ∀ c ∈ sharedNs H, 0 ≤ c ∧ c ≤ 120 := by
  intro c hc
  unfold sharedNs at hc
  obtain ⟨j, hj, rfl⟩ := List.mem_map.mp hc
  have hj2 := List.mem_range.mp hj
  have h1 := stir_bound H H.length j
  have h2 := stir_small H.length h j (by lia)
  lia
theorem shared_len (H : List (List Int)) : (sharedNs H).length = H.length + 1 := by simp [sharedNs]
end Mine
end
section
theorem Mine.startMathRows : True := by
  w_top off
  trivial
open PySem PySem.Spec PySem.Calls PyProof.Rows PySem.W
set_option maxRecDepth 100000
namespace Mine
/-- a line's end without its feed -/
noncomputable def eolS (tot : Int) (k : Nat) : List Nat := if (tot + (k : Int)) % 2 = 0 then [] else [13]
theorem eol_split (tot : Int) (k : Nat) : eolL tot k = eolS tot k ++ [10] := by
  unfold eolL eolS
  split <;> rfl
noncomputable def bodyN (tot : Int) (labs : List (List Nat)) (k : Nat) : List Nat := labs.getD k [] ++ eolS tot k
noncomputable def bodyU (tot : Int) (labs : List (List Nat)) (M k : Nat) : List UInt8 := if k < M then (bodyN tot labs k).map Nat.toUInt8 ++ [10] else [65, 10]
theorem u8_ne {a b : Nat} (ha : a < 256) (hb : b < 256) (h : a ≠ b) : a.toUInt8 ≠ b.toUInt8 := by
  intro e
  have := congrArg UInt8.toNat e
  simp at this
  lia
/-- what is asked of the labels -/
structure LabsOk (M : Nat) (labs : List (List Nat)) : Prop where
  len : labs.length = M
  ok : ∀ k, k < M → ∃ t, labs.getD k [] = (97 + k) :: t ∧ t.length ≤ 2 ∧ ∀ c ∈ t, c ≠ 10 ∧ c < 128
theorem bodyN_ok {tot : Int} {labs : List (List Nat)} {M k : Nat} (h : LabsOk M labs) (hM : M ≤ 6) (hk : k < M) : (∃ t, bodyN tot labs k = (97 + k) :: t) ∧ (∀ c ∈ bodyN tot labs k, c ≠ 10 ∧ c < 128) ∧ (bodyN tot labs k).length ≤ 4 := by
  obtain ⟨t, e, ht, hc⟩ := h.ok k hk
  have he : (eolS tot k).length ≤ 1 ∧ ∀ c ∈ eolS tot k, c ≠ 10 ∧ c < 128 := by
    unfold eolS
    split
    · exact ⟨by decide, by decide⟩
    · exact ⟨by decide, by decide⟩
  unfold bodyN
  rw [e]
  refine ⟨⟨_, rfl⟩, fun c hc2 => ?_, ?_⟩
  · rcases List.mem_append.mp hc2 with hc2 | hc2
    · rcases List.mem_cons.mp hc2 with rfl | hc2
      · lia
      · exact hc c hc2
    · exact he.2 c hc2
  · rw [List.length_append, List.length_cons]
    lia
theorem bodyU_ok {tot : Int} {labs : List (List Nat)} {M : Nat} (h : LabsOk M labs) (hM : M ≤ 6) : ∀ k, Body (bodyU tot labs M k) := by
  intro k
  unfold bodyU
  by_cases hk : k < M
  · rw [if_pos hk]
    obtain ⟨⟨t, e⟩, hc, _⟩ := bodyN_ok (tot := tot) h hM hk
    rw [e] at hc ⊢
    refine ⟨(97 + k).toUInt8, t.map Nat.toUInt8, by simp, u8_ne (b := 46) (by lia) (by decide) (by lia), u8_ne (b := 10) (by lia) (by decide) (by lia), fun x hx => ?_⟩
    obtain ⟨c, hc2, rfl⟩ := List.mem_map.mp hx
    have := hc c (.tail _ hc2)
    exact u8_ne (b := 10) (by lia) (by decide) this.1
  · rw [if_neg hk]
    exact ⟨65, [], rfl, by decide, by decide, fun x hx => by cases hx⟩
noncomputable def rowsB (tot : Int) (labs : List (List Nat)) (M : Nat) : List (Array UInt8) := (rowsL tot labs M).map bytesL
theorem row_eq {tot : Int} {labs : List (List Nat)} {M k : Nat} (hk : k < M) : bytesL (rowL tot labs k) = (segB1 (bodyU tot labs M) (1, k)).toArray := by
  unfold bytesL rowL segB1 bodyU
  rw [if_pos hk, eol_split]
  congr 1
  simp [bodyN]
theorem rows_eq {tot : Int} {labs : List (List Nat)} {M : Nat} : rowsB tot labs M = (List.range M).map fun k => (segB1 (bodyU tot labs M) (1, k)).toArray := by
  unfold rowsB rowsL
  rw [List.map_map]
  refine List.map_congr_left fun k hk => ?_
  exact row_eq (List.mem_range.mp hk)
theorem rowsB_len (tot : Int) (labs : List (List Nat)) (M : Nat) : (rowsB tot labs M).length = M := by simp [rowsB, rowsL]
theorem rowsB_small {tot : Int} {labs : List (List Nat)} {M : Nat} (h : LabsOk M labs) (hM : M ≤ 6) : ∀ b ∈ rowsB tot labs M, b.size ≤ 16 := by
  intro b hb
  rw [rows_eq] at hb
  obtain ⟨k, hk, rfl⟩ := List.mem_map.mp hb
  have hk2 := List.mem_range.mp hk
  have := (bodyN_ok (tot := tot) h hM hk2).2.2
  unfold segB1 bodyU
  rw [if_pos hk2]
  simp
  lia
theorem rowsB_get {tot : Int} {labs : List (List Nat)} {M k : Nat} (hk : k < M) : (rowsB tot labs M).getD k #[] = (segB1 (bodyU tot labs M) (1, k)).toArray := by
  rw [rows_eq, List.getD_eq_getElem?_getD, List.getElem?_map, List.getElem?_range hk]
  rfl
theorem mailRow_eq {tot : Int} {labs : List (List Nat)} {M k : Nat} (H : List (List Int)) (hk : k < M) : (mailRow H (rowsB tot labs M) k).toList = segB1 (bodyU tot labs M) ((H.getD k []).length + 2, k) := by
  unfold mailRow
  rw [rowsB_get hk]
  simp [segB1]
/-- the rows of the mail -/
noncomputable def segsOf (tot : Int) (labs : List (List Nat)) (H : List (List Int)) (pl : List Nat) : List Row := pl.map fun i => ((H.getD i []).length + 2, bodyN tot labs i)
theorem seg_bytes {tot : Int} {labs : List (List Nat)} {M k d : Nat} (hk : k < M) : segB1 (bodyU tot labs M) (d, k) = (lineOf (d, bodyN tot labs k) ++ [10]).map Nat.toUInt8 := by
  unfold segB1 bodyU lineOf
  rw [if_pos hk]
  simp
theorem mail_bytes {tot : Int} {labs : List (List Nat)} {M : Nat} (H : List (List Int)) : ∀ pl : List Nat, (∀ i ∈ pl, i < M) → (flatB (pl.map (mailRow H (rowsB tot labs M)))) = (flatL ((segsOf tot labs H pl).map lineOf)).map Nat.toUInt8
  | [], _ => rfl
  | i :: r, h => by
    have ih := mail_bytes (tot := tot) (labs := labs) (M := M) H r fun j hj => h j (.tail _ hj)
    rw [List.map_cons, flatB_cons, ih, mailRow_eq H (h i (.head _)), seg_bytes (h i (.head _))]
    have e : flatL ((segsOf tot labs H (i :: r)).map lineOf) = (lineOf ((H.getD i []).length + 2, bodyN tot labs i) ++ [10]) ++ flatL ((segsOf tot labs H r).map lineOf) := by simp [flatL, segsOf]
    rw [e, List.map_append, List.map_append]
    simp only [List.map_append]
theorem out_eq {tot : Int} {labs : List (List Nat)} {M : Nat} {ps : List Int} (H : List (List Int)) {pl : List Nat} (hl : LabsOk M labs) (hM : M ≤ 6) (hp : ∀ i ∈ pl, i < M) (ho : outlineS M ps = pl.map fun i => ((H.getD i []).length + 2, i)) :
    outlineB (rowsB tot labs M) ps = flatB (pl.map (mailRow H (rowsB tot labs M))) := by
  rw [outline_S (bodyU_ok (tot := tot) hl hM) rows_eq ps, ho]
  unfold segS flatB
  rw [List.map_map, List.map_map]
  congr 1
  refine List.map_congr_left fun i hi => ?_
  exact (mailRow_eq H (hp i hi)).symm
theorem rows_ok {tot : Int} {labs : List (List Nat)} {M : Nat} {H : List (List Int)} {pl : List Nat} (hl : LabsOk M labs) (hM : M ≤ 6) (hp : ∀ i ∈ pl, i < M) (hH : ∀ i, i < M → (H.getD i []).length ≤ 6) : ∀ s ∈ segsOf tot labs H pl, RowOk s := by
  intro s hs
  obtain ⟨i, hi, rfl⟩ := List.mem_map.mp hs
  have hi2 := hp i hi
  obtain ⟨⟨t, e⟩, hc, h4⟩ := bodyN_ok (tot := tot) hl hM hi2
  have := hH i hi2
  exact ⟨⟨_, _, e, by lia⟩, hc, by dsimp only; lia, by dsimp only; lia⟩
theorem prodS_eq {tot g : Int} {labs : List (List Nat)} {H : List (List Int)} (pl : List Nat) : prodS g (segsOf tot labs H pl) = (pl.map fun i => g - ((H.getD i []).length : Int)).foldl (· * ·) 1 := by
  unfold prodS segsOf
  rw [List.foldl_map, List.foldl_map]
  congr 1
  funext n i
  congr 1
  have : (lineOf ((H.getD i []).length + 2, bodyN tot labs i)).length = (H.getD i []).length + 2 + (bodyN tot labs i).length := by simp [lineOf]
  rw [this]
  dsimp only
  lia
theorem foldl_mul_perm {l m : List Int} (h : l.Perm m) : ∀ a : Int, l.foldl (· * ·) a = m.foldl (· * ·) a := by
  induction h with
  | nil => intro a; rfl
  | cons x _ ih => intro a; rw [List.foldl_cons, List.foldl_cons, ih]
  | swap x y l => intro a; rw [List.foldl_cons, List.foldl_cons, List.foldl_cons, List.foldl_cons, Int.mul_assoc, Int.mul_assoc, Int.mul_comm x y]
  | trans _ _ ih1 ih2 => intro a; rw [ih1, ih2]
theorem perm_range {pl : List Nat} {M : Nat} (h1 : ∀ i ∈ pl, i < M) (h2 : ∀ k, k < M → pl.count k = 1) : pl.Perm (List.range M) := by
  rw [List.perm_iff_count]
  intro a
  by_cases ha : a < M
  · rw [h2 a ha]
    have : (List.range M).count a = 1 := by
      rw [List.count_range]
      simp [ha]
    rw [this]
  · rw [List.count_eq_zero.mpr fun hm => ha (h1 a hm), List.count_eq_zero.mpr fun hm => ha (List.mem_range.mp hm)]
/-- the sorted order -/
theorem ok_of {ns : List Int} {M : Nat} (hM : M = 5 ∨ M = 6) : ∃ perm, kasRun (fun i j => lexLt ((pathsL (holdsL (parsL ns M) M) M).getD i []) ((pathsL (holdsL (parsL ns M) M) M).getD j [])) M (kas_sort M) = some perm ∧ perm.size = M ∧ (∀ i ∈ perm.toList, i < M) ∧ (∀ k, k < M → perm.toList.count k = 1) ∧
    outlineS M (parsL ns M) = perm.toList.map fun i => (((holdsL (parsL ns M) M).getD i []).length + 2, i) := by
  have hok : okVec M (parsL ns M) = true := by
    rcases hM with rfl | rfl
    · exact List.all_eq_true.mp okVec5 _ (parsL_vecs ns 5)
    · exact okVec6 ns
  unfold okVec at hok
  split at hok
  · rename_i perm hp
    simp only [Bool.and_eq_true, beq_iff_eq, List.all_eq_true, decide_eq_true_eq] at hok
    exact ⟨perm, hp, hok.1.1.1, hok.1.1.2, fun k hk => hok.1.2 k (List.mem_range.mpr hk), hok.2⟩
  · cases hok
theorem labs_ok (ns : List Int) (M : Nat) : LabsOk M (labsL ns M) := by
  refine ⟨labsL_len ns M, fun k hk => ?_⟩
  rw [labsL_get hk]
  refine ⟨_, rfl, tailsL_short _, ?_⟩
  have : ∀ i, (∀ c ∈ tailsL.getD i [], c ≠ 10 ∧ c < 128) := fun i => match i with
    | 0 => by decide
    | 1 => by decide
    | 2 => by decide
    | 3 => by decide
    | i + 4 => by simp [tailsL]
  exact this _
end Mine
end
section
theorem Mine.startMathBnd : True := by
  w_top off
  trivial
open PySem PySem.Spec PySem.Calls PyProof.Rows PySem.W
set_option maxRecDepth 100000
namespace Mine
theorem evalT_nonneg {X : Int} (hX : 128 ≤ X) : ∀ (cs : List Int) (j : Nat), (∀ c ∈ cs, 0 ≤ c) → j + cs.length ≤ 100 → 0 ≤ evalT X j cs
  | [], _, _, _ => Int.le_refl _
  | c :: r, j, hc, hj => by
    rw [List.length_cons] at hj
    have ih := evalT_nonneg hX r (j + 1) (fun c h => hc c (.tail _ h)) (by lia)
    have h1 := Int.mul_nonneg (show 0 ≤ X - (j : Int) by lia) ih
    have h2 := hc c (.head _)
    rw [evalT]
    lia
theorem evalT_mono {X : Int} (hX : 128 ≤ X) : ∀ (cs : List Int) (j i : Nat), (∀ c ∈ cs, 0 ≤ c) → j + cs.length ≤ 100 → evalT X (j + i) (cs.drop i) ≤ evalT X j cs
  | cs, j, 0, _, _ => by rw [List.drop_zero]; exact Int.le_refl _
  | [], _, _ + 1, _, _ => Int.le_refl _
  | c :: r, j, i + 1, hc, hj => by
    rw [List.length_cons] at hj
    have hr : ∀ c ∈ r, 0 ≤ c := fun c h => hc c (.tail _ h)
    have ih := evalT_mono hX r (j + 1) i hr (by lia)
    have h0 := evalT_nonneg hX r (j + 1) hr (by lia)
    have h2 := hc c (.head _)
    have h3 : 1 * evalT X (j + 1) r ≤ (X - (j : Int)) * evalT X (j + 1) r := Int.mul_le_mul_of_nonneg_right (by lia) h0
    rw [List.drop_succ_cons, evalT, show j + (i + 1) = j + 1 + i by lia]
    lia
theorem foldl_le {X : Nat} : ∀ (l : List Int) (a : Int) (b : Nat), 0 ≤ a → a ≤ (b : Int) → (∀ x ∈ l, 0 ≤ x ∧ x ≤ (X : Int)) → 0 ≤ l.foldl (· * ·) a ∧ l.foldl (· * ·) a ≤ ((b * X ^ l.length : Nat) : Int)
  | [], a, b, h0, h1, _ => by simpa using ⟨h0, h1⟩
  | x :: r, a, b, h0, h1, h => by
    have ⟨hx0, hx1⟩ := h x (.head _)
    have ⟨h2, h3⟩ := foldl_le r (a * x) (b * X) (Int.mul_nonneg h0 hx0) (by
      rw [Int.natCast_mul]
      exact Int.mul_le_mul h1 hx1 hx0 (by lia)) fun y hy => h y (.tail _ hy)
    refine ⟨h2, Int.le_trans h3 ?_⟩
    rw [List.length_cons, Nat.pow_succ]
    have : b * X * X ^ r.length = b * (X ^ r.length * X) := by rw [Nat.mul_assoc, Nat.mul_comm X]
    rw [this]
    exact Int.le_refl _
theorem six_le {n j b : Nat} (hn : 128 ≤ n) (hj : j ≤ 6) (hb : n - j < 2 ^ b) : n ^ 6 < 2 ^ (b * 16) := by
  have hb1 : 1 ≤ b := by
    cases b with
    | zero => simp at hb; lia
    | succ b => lia
  have h1 : n ≤ 2 * (n - j) := by lia
  have h2 : n < 2 ^ (b + 1) := by rw [Nat.pow_succ]; lia
  have h3 : n ^ 6 < (2 ^ (b + 1)) ^ 6 := Nat.pow_lt_pow_left h2 (by decide)
  rw [← Nat.pow_mul] at h3
  exact Nat.lt_of_lt_of_le h3 (Nat.pow_le_pow_right (by decide) (by lia))
section
variable {M : Nat} {O : List (List Nat)} {H : List (List Int)}
theorem Fam.bnd (K : Fam M O H) (hM : M ≤ 6) {X : Int} (hX : 128 ≤ X) : ∀ j, j ≤ M → 0 ≤ evalT X j ((sharedNs H).drop j) ∧ evalT X j ((sharedNs H).drop j) < 2 ^ (Builtin.Int.intBits (X - (j : Int)) * 16) := by
  intro j hj
  have hl : H.length ≤ 6 := by rw [K.lenH]; exact hM
  have hc : ∀ c ∈ sharedNs H, 0 ≤ c := fun c h => (shared_small hl c h).1
  have hlen := shared_len H
  refine ⟨evalT_nonneg hX _ j (fun c h => hc c (List.mem_of_mem_drop h)) (by rw [List.length_drop]; lia), ?_⟩
  have h1 := evalT_mono hX (sharedNs H) 0 j hc (by lia)
  rw [Nat.zero_add, K.shared X] at h1
  obtain ⟨n, rfl⟩ : ∃ n : Nat, X = (n : Int) := ⟨X.toNat, by lia⟩
  have h2 := (foldl_le (X := n) ((List.range M).map fun i => (n : Int) - ((H.getD i []).length : Int)) 1 1 (by decide) (by decide) fun x hx => by
    obtain ⟨i, hi, rfl⟩ := List.mem_map.mp hx
    have := K.holdLen i (List.mem_range.mp hi)
    have := List.mem_range.mp hi
    lia).2
  rw [Nat.one_mul, List.length_map, List.length_range] at h2
  have h3 : n ^ M ≤ n ^ 6 := Nat.pow_le_pow_right (by lia) hM
  have h4 : (n : Int) - (j : Int) < 2 ^ (Builtin.Int.intBits ((n : Int) - (j : Int))) := lt_bits (by lia)
  generalize Builtin.Int.intBits ((n : Int) - (j : Int)) = b at h4
  have h5 : n - j < 2 ^ b := by
    have : ((n - j : Nat) : Int) < ((2 ^ b : Nat) : Int) := by
      rw [Int.natCast_pow]
      have : ((n - j : Nat) : Int) = (n : Int) - (j : Int) := by lia
      rw [this]
      exact h4
    lia
  have h6 := six_le (by lia) (by lia) h5
  have h7 : ((n ^ 6 : Nat) : Int) < ((2 ^ (b * 16) : Nat) : Int) := by lia
  rw [Int.natCast_pow 2 (b * 16)] at h7
  have h8 : ((n ^ M : Nat) : Int) ≤ ((n ^ 6 : Nat) : Int) := by lia
  exact Int.lt_of_le_of_lt (Int.le_trans h1 h2) (Int.lt_of_le_of_lt h8 h7)
end
/-- the sum of the numbers -/
theorem sum_bound : ∀ (l : List Int), (∀ x ∈ l, 0 ≤ x ∧ x < 10 ^ 40) → 0 ≤ l.sum ∧ l.sum ≤ 10 ^ 40 * (l.length : Int)
  | [], _ => by simp
  | x :: r, h => by
    have ⟨h1, h2⟩ := sum_bound r fun y hy => h y (.tail _ hy)
    have ⟨h3, h4⟩ := h x (.head _)
    rw [List.sum_cons, List.length_cons]
    have : (10 : Int) ^ 40 * ((r.length + 1 : Nat) : Int) = 10 ^ 40 * (r.length : Int) + 10 ^ 40 := by
      rw [Int.natCast_add, Int.mul_add]
      rfl
    rw [this]
    lia
end Mine
end
section
theorem Mine.startMid : True := by
  w_top off
  trivial
open PySem PySem.Spec PySem.Calls PyProof.Rows PySem.W
set_option maxRecDepth 100000
set_option maxHeartbeats 8000000
namespace Mine
theorem nums_ok (script : List Int) : (∀ x ∈ numsL script, 0 ≤ x ∧ x < 10 ^ 40) ∧ (numsL script).length ≤ 65 ∧ 5 ≤ (numsL script).length ∧ (5 < script.length → 6 ≤ (numsL script).length) := by
  have hl : (numsL script).length = (script.take 60).length + (5 - (script.take 60).length) := by simp [numsL]
  have h2 : (script.take 60).length = min 60 script.length := by simp
  refine ⟨fun x hx => ?_, by lia, by lia, fun h => by lia⟩
  rcases List.mem_append.mp hx with hx | hx
  · obtain ⟨y, _, rfl⟩ := List.mem_map.mp hx
    exact ⟨Int.emod_nonneg _ (by decide), Int.emod_lt_of_pos _ (by decide)⟩
  · have := List.mem_of_mem_drop hx
    exact (by decide : ∀ x ∈ ([0, 1, 1, 2, 0] : List Int), 0 ≤ x ∧ x < 10 ^ 40) x this

theorem labs_short (ns : List Int) (M : Nat) : ∀ l ∈ labsL ns M, l.length ≤ 3 := fun l hl => by
  unfold labsL at hl
  obtain ⟨k, _, rfl⟩ := List.mem_map.mp hl
  exact labOf_len ns k
theorem labs_asc (ns : List Int) (M : Nat) (hM : M ≤ 6) : ∀ l ∈ labsL ns M, ∀ c ∈ l, c < 128 := fun l hl c hc => by
  unfold labsL at hl
  obtain ⟨k, hk, rfl⟩ := List.mem_map.mp hl
  have := List.mem_range.mp hk
  obtain ⟨⟨t, e, ht⟩, _⟩ := labOf_ok ns k
  rw [e] at hc
  rcases List.mem_cons.mp hc with rfl | hc
  · lia
  · exact (ht c hc).2
theorem lawMid {w : World} {L fa : Addr} {cd : Value} {R : Flow → Shared → Prop} {E : Value → Shared → Prop} {s : Shared} {h₀ : Heap} {p : Program} {loose : List Str} {mean : ExcName → Option Value} {mg mb : Str → Option Value} {m : Str → Option Value}
    {script : List Int} {M : Nat} {tM tT : Tok} {nA tA pA lA hA dA : Addr} {nv tv : List Value} {cn ct : Nat} {oR oH oD : Obj}
    (X : (Mine.hd.heap_39 w.params).In h₀) (T : Top p loose mean mg mb h₀)
    (F : Fr h₀ L s.heap m) (hm : Has m [(Str.ofString "many", .int M tM), (Str.ofString "numbers", .ref nA), (Str.ofString "total", .int (numsL script).sum tT), (Str.ofString "tails", .ref tA), (Str.ofString "parents", .ref pA), (Str.ofString "labels", .ref lA)])
    (N : News h₀ L s.heap [(hA, PySem.W.listOf #[] 0), (lA, PySem.W.listOf #[] 0), (dA, PySem.W.listOf #[] 0), (pA, PySem.W.listOf #[] 0), (tA, PySem.W.listOf tv.toArray ct), (nA, PySem.W.listOf nv.toArray cn), (L + 1 + 1 + 1, oR), (L + 1 + 1, oH), (L + 1, oD), (80, tabObj #[]), (73, tabObj #[])])
    (dR : oR.data = .cell none) (dH : oH.data = .cell (some (.ref hA))) (dD : oD.data = .cell (some (.ref dA)))
    (hns : IntsAre nv (numsL script)) (htv : F2 strV tv tailsL) (hM : M = 5 ∨ M = 6) (hM6 : M = 6 → 5 < script.length)
    (ord : @LT.lt Nat _ (L + 1 + 1 + 1) nA ∧ @LT.lt Nat _ nA tA ∧ @LT.lt Nat _ tA pA ∧ @LT.lt Nat _ pA dA ∧ @LT.lt Nat _ dA lA ∧ @LT.lt Nat _ lA hA ∧ @LT.lt Nat _ 80 L ∧ @LT.lt Nat _ 73 L)
    (k : ∀ h tk m ps80 ps73, Fr h₀ L h m → h.get? 80 = some (tabObj ps80) → h.get? 73 = some (tabObj ps73) → R (.ret (.bool true)) { s with heap := h, toks := tk }) :
    wpAny (model PySem.Challenge.rw_xe0036_01.row.prog w) (lawA L fa cd) (execs (lawDef.1.drop 9) (lawE L fa cd)) R E s := by
  obtain ⟨hnb, hn65, hn5, hn6⟩ := nums_ok script
  have hM6' : M ≤ 6 := by lia
  have hMn : M ≤ (numsL script).length := by
    rcases hM with h | h
    · lia
    · have := hn6 (hM6 h); lia
  obtain ⟨hs0, hs1⟩ := sum_bound _ hnb
  have hs2 : (numsL script).sum < 2 ^ 150 := by
    have e1 : (10 : Int) ^ 40 = 10000000000000000000000000000000000000000 := by decide
    have e2 : (2 : Int) ^ 150 = 1427247692705959881058285969449495136382746624 := by decide
    rw [e1] at hs1
    rw [e2]
    have : ((numsL script).length : Int) ≤ 65 := by lia
    lia
  generalize htot : (numsL script).sum = tot at *
  generalize hnsE : numsL script = ns at *
  have n80 : notIt (tabObj #[]) = true := rfl
  have o1 := ord.1
  have ord6 : @LT.lt Nat _ (L + 1 + 1 + 1) pA ∧ @LT.lt Nat _ pA dA ∧ @LT.lt Nat _ dA lA ∧ @LT.lt Nat _ lA hA ∧ @LT.lt Nat _ 80 L ∧ @LT.lt Nat _ 73 L := by
    obtain ⟨o1, o2, o3, o4, o5, o6, o7, o8⟩ := ord
    exact ⟨by lia, o4, o5, o6, o7, o8⟩
  have K := fam_of ns M
  have hlk := labs_ok ns M
  obtain ⟨perm, hrun, hps, hpM, hpc, hpo⟩ := ok_of (ns := ns) hM
  have hH6i : ∀ i, i < M → ((holdsL (parsL ns M) M).getD i []).length ≤ 6 := fun i hi => by
    have := K.holdLen i hi
    lia
  have hH6 : ∀ h ∈ holdsL (parsL ns M) M, h.length ≤ 6 := (K.checks hM6').short
  have hsegok := rows_ok (tot := tot) (H := holdsL (parsL ns M) M) hlk hM6' hpM hH6i
  have heq := out_eq (tot := tot) (holdsL (parsL ns M) M) hlk hM6' hpM hpo
  have hmb := mail_bytes (tot := tot) (labs := labsL ns M) (M := M) (holdsL (parsL ns M) M) perm.toList hpM
  have hsl : (segsOf tot (labsL ns M) (holdsL (parsL ns M) M) perm.toList).length ≤ 6 := by
    unfold segsOf
    rw [List.length_map, Array.length_toList]
    lia
  have hfl := flat_len hsegok hsl
  refine segB X T F hm N dR dH dD hns htv hM6' hMn n80 n80 ord (fun h1 tk1 m1 pv cp lv cl hv ch dv cdd imm F1 hm1 N1 him hpv hlv hhv hdv => ?_)
  refine segC X T F1 hm1 N1 dR dH dD him n80 n80 hM6' hhv hdv (K.checks hM6') (fun h2 tk2 m2 F2 hm2 N2 => ?_)
  refine segD X T F2 hm2 N2 dR dH dD him n80 n80 ord6 hM6' hlv (labsL_len ns M) (labs_short ns M) (labs_asc ns M hM6') (fun h3 tk3 m3 wA rv cr oR' F3 hm3 N3 dR' hrv lw => ?_)
  have him2 : ∀ p ∈ imm, isLst p.2 := fun p hp => (him p hp).1
  refine segE (rows := rowsB tot (labsL ns M) M) X T F3 hm3 N3 dR' dH dD him2 n80 n80 (by lia) hM6' hrv (rowsB_len tot (labsL ns M) M) (rowsB_small hlk hM6') hpv (parsL_len ns M) hdv (holdsL_len _ _) hH6 hrun (by lia) hpM (by rw [heq, hmb, List.length_map]; lia) heq (fun h4 tk4 m4 tM2 F4 hm4 N4 => ?_)
  refine segF (dA := dA) (dv := dv) (cdd := cdd) (imm := imm) (oR := oR') (oH := oH) (oD := oD) (t80 := tabObj #[]) (t73 := tabObj #[]) X T F4 hm4 (news_sub N4 fun p hp => ?sub1) (notIt_cell dR') (notIt_cell dH) (notIt_cell dD) him2 n80 n80 hsegok ?ne1 hsl hs0 hs2 ?ob (fun h5 tk5 m5 tG tN F5 hm5 N5 => ?_)
  case sub1 =>
    rcases List.mem_cons.mp hp with rfl | hp
    · exact mm3
    · exact List.mem_append_right [_, _, _, _, _] hp
  case ne1 =>
    intro e
    have := congrArg List.length e
    unfold segsOf at this
    rw [List.length_map, Array.length_toList, List.length_nil] at this
    lia
  case ob =>
    rw [heq, hmb]
    rfl
  have hX : 128 ≤ 128 + tot := by lia
  refine segG (dA := dA) (dv := dv) (cdd := cdd) (imm := imm) (oD := oD) (H := holdsL (parsL ns M) M) (cs := sharedNs (holdsL (parsL ns M) M)) X T F5 hm5 (news_sub N5 fun p hp => ?sub2) dD him2 (by lia) hM6' hdv (holdsL_len _ _) hH6 hX ?x1 ?cl (shared_small (by rw [holdsL_len]; exact hM6')) ?num (K.bnd hM6' hX) rfl (fun h6 tk6 m6 ps80 ps73 F6 e80 e73 => k h6 tk6 m6 ps80 ps73 F6 e80 e73)
  case sub2 =>
    rcases List.mem_cons.mp hp with rfl | hp
    · exact mm4
    rcases List.mem_cons.mp hp with rfl | hp
    · exact mm5
    rcases List.mem_cons.mp hp with rfl | hp
    · exact mm0
    rcases List.mem_cons.mp hp with rfl | hp
    · exact mm3
    · exact List.mem_append_right [_, _, _, _, _, _] hp
  case x1 =>
    have e1 : (2 : Int) ^ 151 = 2854495385411919762116571938898990272765493248 := by decide
    have e2 : (2 : Int) ^ 150 = 1427247692705959881058285969449495136382746624 := by decide
    lia
  case cl => rw [shared_len, holdsL_len]
  case num =>
    rw [K.shared, prodS_eq]
    exact (foldl_mul_perm ((perm_range hpM hpc).map _) 1).symm
end Mine
end
section
theorem Mine.startJoin : True := by
  w_top off
  trivial
open PySem PySem.Spec PySem.Calls PyProof.Rows PySem.W
set_option maxRecDepth 100000
set_option maxHeartbeats 8000000
namespace Mine
theorem post_true (args ds : List WData) : PySem.Challenge.rw_xe0036_01.row.claim.post args (.bool true) ds = true := by
  show (WShape.has [] (.bool true) .bool && WTm.holds [] (WTm.eq .res (.lit (.bool true))) { args := args, res := some (.bool true), after := ds }) = true
  have h : (WTm.eq .res (.lit (.bool true))).value [] { args := args, res := some (.bool true), after := ds } = some (.bool true) := w_eq_bool (k := true) (l := true) (by simp [WTm.value]) (by simp [WTm.value])
  unfold WTm.holds
  rw [h]
  rfl
theorem main : PySem.Challenge.rw_xe0036_01.Holds := by
  refine Mine.hd ?_
  k_go0
  rename_i w s₀ s₁ mg mb G Y fa o pm cd doc ho hcd hg XG VG TG BG TEG TWG script hs hlay0 hlay hr hl2 as1 as2 sa svs as3 hsl0 ra w1 r0 hsi hrr hcond htr hDf h₁ tk₁ oR oH oD dR dH dD Y0 X T KB F chd N l0
  clear Y0 hDf htr hrr r0 w1 ra hsl0 hl2 hr hlay hlay0 hs TWG TEG BG TG VG XG
  generalize hgh : ghostOf s₁.heap [(84, 80), (77, 73)] = h₀ at *

  refine segA (L := s₁.heap.objs.size) (fa := fa) (cd := cd) (script := script) (sa := sa) (svs := svs) X T F ?hm N dR dH dD ?hsl hsi ?h63 l0 ?kk
  case hm => exact has_cons rfl has_nil
  case hsl => assumption
  case h63 => omega
  case kk =>
    intro h tk m M tM tT nA tA pA lA hA dA nv tv cn ct oH1 oD1 F1 hm1 N1 dH1 dD1 hnl htv hM hM6 ord
    refine lawMid X T F1 hm1 N1 dR dH1 dD1 hnl htv hM hM6 ord (fun h tk m ps80 ps73 F2 e80 e73 => ?_)
    refine ⟨⟨.inl ⟨.bool true, .bool true, [], rfl, fun _ => ?ra, ?rd, ?po, ?un⟩, F2.keep, ?os, ?ge⟩, ⟨ps80, e80⟩, ⟨ps73, e73⟩, trivial⟩
    case ra => rfl
    case rd => exact .bool true
    case po => exact post_true _ _
    case un => exact fun _ => ⟨List.nodup_nil, fun a h => nomatch h⟩
    case os => rfl
    case ge => assumption
end Mine
end
set_option maxRecDepth 100000 in
theorem PySem.Challenge.cw_xe0036_01_holds : PySem.Challenge.rw_xe0036_01.Holds := by
  exact Mine.main
