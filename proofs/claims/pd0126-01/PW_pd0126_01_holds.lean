import PyProof.Rows.All
import Wide.All
import OpenK.AllK
import Wide.FinOn
import Lean
import PySem.Challenge.RW_pd0126_01
set_option Elab.async false

noncomputable section
open PySem PySem.W PyProof.Rows
set_option maxRecDepth 100000
set_option maxHeartbeats 8000000
namespace Mine
open_top hd for PySem.Challenge.rw_pd0126_01
end Mine
end

noncomputable section
namespace Mine
open PySem PySem.Sre
def c1 : Array Nat := #[14,4,0,1,1,6,1,16,46,1]
def c2 : Array Nat := #[14,9,4,1,2,16,10,16,13,0,7,7,16,13,16,10,15,18,5,16,10,15,13,11,16,13,5,5,0,16,10,1,15,2,0,1]
theorem runFor_add (a b : Nat) : ∀ m : M, M.runFor (a + b) m = M.runFor b (M.runFor a m) := by
  induction a with
  | zero => intro m; simp [M.runFor]
  | succ a ih =>
    intro m
    rw [Nat.succ_add]
    show (if m.outcome.isSome then m else M.runFor (a + b) m.step) = M.runFor b (if m.outcome.isSome then m else M.runFor a m.step)
    by_cases h : m.outcome.isSome = true
    · rw [if_pos h, if_pos h]
      cases b with
      | zero => rfl
      | succ b => show m = (if m.outcome.isSome then m else _); rw [if_pos h]
    · rw [if_neg h, if_neg h]; exact ih _
theorem runFor_done {m : M} (h : m.outcome.isSome = true) : ∀ n, M.runFor n m = m
  | 0 => rfl
  | n + 1 => by show (if m.outcome.isSome then m else _) = m; rw [if_pos h]
theorem runFor_ge {m f : M} {n N : Nat} (h : M.runFor n m = f) (hf : f.outcome.isSome = true) (hn : n ≤ N) : M.runFor N m = f := by
  obtain ⟨k, rfl⟩ := Nat.le.dest hn
  rw [runFor_add, h, runFor_done hf]
theorem runFor_one {m : M} (h : m.outcome = none) : M.runFor 1 m = m.step := by
  show (if m.outcome.isSome then m else m.step) = m.step
  rw [h]; rfl
theorem runFor_succ {m : M} {n : Nat} (h : m.outcome = none) : M.runFor (n + 1) m = M.runFor n m.step := by
  show (if m.outcome.isSome then m else M.runFor n m.step) = _
  rw [h]; rfl
theorem runFor_zero {m : M} : M.runFor 0 m = m := rfl
abbrev S1 (text : Array Nat) (lim start last : Nat) (must : Bool) (pc pos handed : Nat) (om : Bool) (fr : List Sre.Frame) (wt : Nat) (ans : Option Bool) (sn : Seen) (oc : Option Sre.Outcome) : M :=
  { code := c1, text := text, lim := lim, start := start, lastStart := last, mustAdvance := must, pc := pc, pos := pos, handed := handed, outermost := om, marks := #[], frames := fr, weight := wt, answer := ans, seen := sn, outcome := oc }
theorem st1_at {text lim start last must pos handed om fr wt sn} : (S1 text lim start last must 5 pos handed om fr wt none sn none).step =
    if (pos == 0 || text.getD (pos - 1) 0 == 10) = true then S1 text lim start last must 7 pos handed om fr wt none ((sn.add 6).add 44) none
    else S1 text lim start last must 5 pos handed om fr wt (some false) ((sn.add 6).add 44) none := rfl
theorem st1_lit {text lim start last must pos handed om fr wt sn} (h : pos < lim) (hc : text.getD pos 0 = 46) : (S1 text lim start last must 7 pos handed om fr wt none sn none).step =
    S1 text lim start last must 9 (pos + 1) handed om fr wt none (sn.add 16) none := by
  show (if pos ≥ lim then _ else (match (Except.ok (text.getD pos 0 == 46, sn.add 16) : Except String (Bool × Seen)) with | .error why => _ | .ok (false, seen) => _ | .ok (true, seen) => _ : M)) = _
  rw [if_neg (by omega), hc]; rfl
theorem st1_lit_no {text lim start last must pos handed om fr wt sn} (h : ¬ (pos < lim ∧ text.getD pos 0 = 46)) : ∃ sn', (S1 text lim start last must 7 pos handed om fr wt none sn none).step =
    S1 text lim start last must 7 pos handed om fr wt (some false) sn' none := by
  show ∃ sn', (if pos ≥ lim then _ else (match (Except.ok (text.getD pos 0 == 46, sn.add 16) : Except String (Bool × Seen)) with | .error why => _ | .ok (false, seen) => _ | .ok (true, seen) => _ : M)) = _
  by_cases hp : pos ≥ lim
  · rw [if_pos hp]; exact ⟨_, rfl⟩
  · rw [if_neg hp]
    have : (text.getD pos 0 == 46) = false := by
      cases e : text.getD pos 0 == 46 with
      | false => rfl
      | true => exact absurd ⟨by omega, by simpa using e⟩ h
    rw [this]; exact ⟨_, rfl⟩
abbrev fr1 (s : Nat) (om : Bool) : Sre.Frame := { wait := .nextStart, pc := 5, pos := s, outermost := om }
abbrev T1 (text : Array Nat) (lim s : Nat) (must om : Bool) (sn : Seen) : M := S1 text lim s lim must 5 s s om [fr1 s om] 1 none sn none
theorem st1_succ {text lim start last must handed om fr wt sn} : (S1 text lim start last must 9 (start + 1) handed om fr wt none sn none).step =
    S1 text lim start last must 9 (start + 1) (start + 1) om fr wt (some true) (sn.add 1) none := by
  show (if (om && ((false && start + 1 != lim) || (must && start + 1 == start))) = true then _ else _) = _
  rw [if_neg (by simp)]
  rfl
theorem st1_yes {text lim start last must pc pos handed om sn s o} : (S1 text lim start last must pc pos handed om [fr1 s o] 1 (some true) sn none).step =
    S1 text lim start last must 5 s handed o [] 0 (some true) sn none := rfl
theorem st1_no {text lim start last must pc pos handed om sn s o} : (S1 text lim start last must pc pos handed om [fr1 s o] 1 (some false) sn none).step =
    if s < last then S1 text lim (s + 1) last false 5 (s + 1) (s + 1) false [fr1 (s + 1) false] 1 none sn none else S1 text lim start last must 5 s handed o [] 0 (some false) sn none := rfl
theorem st1_end {text lim start last must pc pos handed om sn b} : (S1 text lim start last must pc pos handed om [] 0 (some b) sn none).step =
    S1 text lim start last must pc pos handed om [] 0 (some b) sn (some (if b then .matched else .failed)) := rfl
def hit1 (text : Array Nat) (j : Nat) : Bool := (j == 0 || text.getD (j - 1) 0 == 10) && text.getD j 0 == 46
theorem try1_hit {text lim s must om sn} (h : hit1 text s = true) (hl : s < lim) : ∃ f : M, M.runFor 5 (T1 text lim s must om sn) = f ∧ f.outcome = some .matched ∧ f.start = s ∧ f.handed = s + 1 := by
  unfold hit1 at h
  rw [Bool.and_eq_true] at h
  refine ⟨S1 text lim s lim must 5 s (s + 1) om [] 0 (some true) ((((sn.add 6).add 44).add 16).add 1) (some .matched), ?_, rfl, rfl, rfl⟩
  rw [runFor_succ rfl, st1_at, if_pos h.1, runFor_succ rfl, st1_lit hl (by simpa using h.2), runFor_succ rfl, st1_succ, runFor_succ rfl, st1_yes, runFor_succ rfl, st1_end]
  rfl
theorem try1_miss {text lim s must om sn} (h : hit1 text s = false ∨ lim ≤ s) : ∃ n sn', n ≤ 3 ∧ M.runFor n (T1 text lim s must om sn) =
    if s < lim then T1 text lim (s + 1) false false sn' else S1 text lim s lim must 5 s s om [] 0 (some false) sn' none := by
  by_cases ha : (s == 0 || text.getD (s - 1) 0 == 10) = true
  · have hb : ¬ (s < lim ∧ text.getD s 0 = 46) := by
      rintro ⟨x, y⟩
      rcases h with h | h
      · unfold hit1 at h; rw [ha, y] at h; cases h
      · omega
    obtain ⟨sn', e⟩ := st1_lit_no (start := s) (last := lim) (must := must) (handed := s) (om := om) (fr := [fr1 s om]) (wt := 1) (sn := (sn.add 6).add 44) hb
    refine ⟨3, sn', by omega, ?_⟩
    rw [runFor_succ rfl, st1_at, if_pos ha, runFor_succ rfl, e, runFor_succ rfl, st1_no, runFor_zero]
  · refine ⟨2, (sn.add 6).add 44, by omega, ?_⟩
    rw [runFor_succ rfl, st1_at, if_neg ha, runFor_succ rfl, st1_no, runFor_zero]
theorem find1 (text : Array Nat) (lim : Nat) : ∀ (k s : Nat) (must om : Bool) (sn : Seen), lim - s = k → s ≤ lim → ∃ n, n ≤ 4 * k + 5 ∧ ∃ f, M.runFor n (T1 text lim s must om sn) = f ∧
    ((∃ b, s ≤ b ∧ b < lim ∧ hit1 text b = true ∧ (∀ j, s ≤ j → j < b → hit1 text j = false) ∧ f.outcome = some .matched ∧ f.start = b ∧ f.handed = b + 1) ∨
     ((∀ j, s ≤ j → j < lim → hit1 text j = false) ∧ f.outcome = some .failed)) := by
  intro k
  induction k with
  | zero =>
    intro s must om sn hk hs
    obtain ⟨n, sn', hn, e⟩ := try1_miss (must := must) (om := om) (sn := sn) (text := text) (s := s) (lim := lim) (.inr (by omega))
    rw [if_neg (by omega)] at e
    refine ⟨n + 1, by omega, _, rfl, .inr ⟨fun j h1 h2 => by omega, ?_⟩⟩
    rw [runFor_add, e, runFor_one rfl, st1_end]; rfl
  | succ k ih =>
    intro s must om sn hk hs
    cases hh : hit1 text s with
    | true =>
      obtain ⟨f, e, h1, h2, h3⟩ := try1_hit (must := must) (om := om) (sn := sn) hh (show s < lim by omega)
      exact ⟨5, by omega, f, e, .inl ⟨s, Nat.le_refl _, by omega, hh, fun j h1 h2 => by omega, h1, h2, h3⟩⟩
    | false =>
      obtain ⟨n, sn', hn, e⟩ := try1_miss (must := must) (om := om) (sn := sn) (text := text) (s := s) (lim := lim) (.inl hh)
      rw [if_pos (by omega)] at e
      obtain ⟨n', hn', f, e', r⟩ := ih (s + 1) false false sn' (by omega) (by omega)
      refine ⟨n + n', by omega, f, by rw [runFor_add, e, e'], ?_⟩
      rcases r with ⟨b, h1, h2, h3, h4, h5⟩ | ⟨h1, h2⟩
      · refine .inl ⟨b, by omega, h2, h3, fun j hj1 hj2 => ?_, h5⟩
        by_cases q : j = s
        · rw [q]; exact hh
        · exact h4 j (by omega) hj2
      · refine .inr ⟨fun j hj1 hj2 => ?_, h2⟩
        by_cases q : j = s
        · rw [q]; exact hh
        · exact h1 j (by omega) hj2
theorem search1 (text : Array Nat) (lim s : Nat) (must : Bool) (hs : s ≤ lim) : ∃ n, n ≤ 4 * lim + 5 ∧ ∃ f, M.runFor n (forSearch c1 text 0 s lim must) = f ∧
    ((∃ b, s ≤ b ∧ b < lim ∧ hit1 text b = true ∧ (∀ j, s ≤ j → j < b → hit1 text j = false) ∧ f.outcome = some .matched ∧ f.start = b ∧ f.handed = b + 1) ∨
     ((∀ j, s ≤ j → j < lim → hit1 text j = false) ∧ f.outcome = some .failed)) := by
  by_cases h : s = lim
  · subst h
    refine ⟨1, by omega, _, rfl, .inr ⟨fun j h1 h2 => by omega, ?_⟩⟩
    have e : forSearch c1 text 0 s s must = S1 text s s 0 must 5 s s true [] 0 (some false) (({} : Seen).add 14) none := by
      show (if (decide (s > s) || decide (s - s < 1)) = true then _ else _) = _
      rw [if_pos (by simp)]; rfl
    rw [e, runFor_one rfl, st1_end]; rfl
  · have e : forSearch c1 text 0 s lim must = T1 text lim s must true (({} : Seen).add 14) := by
      show (if (decide (s > lim) || decide (lim - s < 1)) = true then _ else _) = _
      rw [if_neg (by simp; omega)]; rfl
    obtain ⟨n, hn, f, e', r⟩ := find1 text lim (lim - s) s must true (({} : Seen).add 14) rfl hs
    exact ⟨n, by omega, f, by rw [e, e'], r⟩
end Mine
end

noncomputable section
namespace Mine
open PySem PySem.Sre
abbrev S2 (text : Array Nat) (lim start last : Nat) (must : Bool) (pc pos handed : Nat) (om : Bool) (fr : List Sre.Frame) (wt : Nat) (ans : Option Bool) (sn : Seen) (oc : Option Sre.Outcome) : M :=
  { code := c2, text := text, lim := lim, start := start, lastStart := last, mustAdvance := must, pc := pc, pos := pos, handed := handed, outermost := om, marks := #[], frames := fr, weight := wt, answer := ans, seen := sn, outcome := oc }
abbrev fr2 (s : Nat) (om : Bool) : Sre.Frame := { wait := .nextStart, pc := 10, pos := s, outermost := om }
abbrev br2 (alt s : Nat) (om : Bool) : Sre.Frame := { wait := .nextBranch, pc := alt, pos := s, outermost := om, kept := { lastmark := -1, lastindex := -1, whole := false, marks := #[] } }
abbrev lk2 (s : Nat) (om : Bool) : Sre.Frame := { wait := .lookNot, pc := 26, pos := s, outermost := om, kept := { lastmark := -1, lastindex := -1, whole := false, marks := #[] } }
abbrev T2 (text : Array Nat) (lim s : Nat) (must om : Bool) (sn : Seen) : M := S2 text lim s lim must 10 s s om [fr2 s om] 1 none sn none
section
variable {text : Array Nat} {lim start last : Nat} {must : Bool} {pos handed : Nat} {om : Bool} {fr : List Sre.Frame} {sn : Seen}
theorem st2_branch : (S2 text lim start last must 10 pos handed om fr 1 none sn none).step = S2 text lim start last must 12 pos pos om (br2 11 pos om :: fr) 2 none (sn.add 7) none := rfl
theorem st2_lit {wt : Nat} (pc k : Nat) (e : c2.getD pc 0 = 16) (hk : c2.getD (pc + 1) 0 = k) (hpc : pc < c2.size) (h : pos < lim) (hc : text.getD pos 0 = k) :
    (S2 text lim start last must pc pos handed om fr wt none sn none).step = S2 text lim start last must (pc + 2) (pos + 1) handed om fr wt none (sn.add 16) none := by
  show (if pc < c2.size then M.exec _ else _) = _
  rw [if_pos hpc]
  unfold M.exec
  dsimp only [M.word]
  simp only [Nat.add_zero, e]
  show (if pos ≥ lim then _ else (match accepts c2 pc (text.getD pos 0) (sn.add 16) with | .error why => _ | .ok (false, seen) => _ | .ok (true, seen) => _ : M)) = _
  have ha : accepts c2 pc (text.getD pos 0) (sn.add 16) = .ok (true, sn.add 16) := by
    unfold accepts
    simp only [e]
    show Except.ok (text.getD pos 0 == c2.getD (pc + 1) 0, _) = _
    rw [hc, hk]; simp
  have hi : itemWidth c2 pc = 2 := by unfold itemWidth; simp only [e]; rfl
  rw [if_neg (by omega), ha]
  show S2 _ _ _ _ _ (pc + itemWidth c2 pc) _ _ _ _ _ _ _ _ = _
  rw [hi]
theorem st2_lit_no {wt : Nat} (pc k : Nat) (e : c2.getD pc 0 = 16) (hk : c2.getD (pc + 1) 0 = k) (hpc : pc < c2.size) (h : ¬ (pos < lim ∧ text.getD pos 0 = k)) :
    (S2 text lim start last must pc pos handed om fr wt none sn none).step = S2 text lim start last must pc pos handed om fr wt (some false) (sn.add 16) none := by
  show (if pc < c2.size then M.exec _ else _) = _
  rw [if_pos hpc]
  unfold M.exec
  dsimp only [M.word]
  simp only [Nat.add_zero, e]
  show (if pos ≥ lim then _ else (match accepts c2 pc (text.getD pos 0) (sn.add 16) with | .error why => _ | .ok (false, seen) => _ | .ok (true, seen) => _ : M)) = _
  by_cases hp : pos ≥ lim
  · rw [if_pos hp]; rfl
  · have ha : accepts c2 pc (text.getD pos 0) (sn.add 16) = .ok (false, sn.add 16) := by
      unfold accepts
      simp only [e]
      show Except.ok (text.getD pos 0 == c2.getD (pc + 1) 0, _) = _
      rw [hk]
      have : (text.getD pos 0 == k) = false := by
        cases q : text.getD pos 0 == k with
        | false => rfl
        | true => exact absurd ⟨by omega, by simpa using q⟩ h
      rw [this]
    rw [if_neg hp, ha]; rfl
theorem st2_jump1 {wt : Nat} : (S2 text lim start last must 16 pos handed om fr wt none sn none).step = S2 text lim start last must 35 pos handed om fr wt none (sn.add 15) none := rfl
theorem st2_jump2 {wt : Nat} : (S2 text lim start last must 21 pos handed om fr wt none sn none).step = S2 text lim start last must 35 pos handed om fr wt none (sn.add 15) none := rfl
theorem st2_jump3 {wt : Nat} : (S2 text lim start last must 32 pos handed om fr wt none sn none).step = S2 text lim start last must 35 pos handed om fr wt none (sn.add 15) none := rfl
theorem st2_succ {wt : Nat} : (S2 text lim start last false 35 pos handed om fr wt none sn none).step = S2 text lim start last false 35 pos pos om fr wt (some true) (sn.add 1) none := by
  show (if (om && ((false && pos != lim) || (false && pos == start))) = true then _ else _) = _
  rw [if_neg (by simp)]
  rfl
theorem st2_byes {pc a s} {o : Bool} : (S2 text lim start last must pc pos handed om (br2 a s o :: fr) 2 (some true) sn none).step = S2 text lim start last must a s handed o fr 1 (some true) sn none := rfl
theorem st2_yes {pc s} {o : Bool} : (S2 text lim start last must pc pos handed om [fr2 s o] 1 (some true) sn none).step = S2 text lim start last must 10 s handed o [] 0 (some true) sn none := rfl
theorem st2_end {pc b} : (S2 text lim start last must pc pos handed om [] 0 (some b) sn none).step = S2 text lim start last must pc pos handed om [] 0 (some b) sn (some (if b then .matched else .failed)) := rfl
theorem st2_bno1 {pc s} {o : Bool} : (S2 text lim start last must pc pos handed om (br2 11 s o :: fr) 2 (some false) sn none).step = S2 text lim start last must 19 s s o (br2 18 s o :: fr) 2 none sn none := rfl
theorem st2_bno2 {pc s} {o : Bool} : (S2 text lim start last must pc pos handed om (br2 18 s o :: fr) 2 (some false) sn none).step = S2 text lim start last must 24 s s o (br2 23 s o :: fr) 2 none sn none := rfl
theorem st2_look : (S2 text lim start last must 26 pos handed om fr 2 none sn none).step = S2 text lim start last must 29 pos pos false (lk2 pos om :: fr) 3 none (sn.add 5) none := rfl
theorem st2_lookno {pc s} {o : Bool} : (S2 text lim start last must pc pos handed om (lk2 s o :: fr) 3 (some false) sn none).step = S2 text lim start last must 32 s handed o fr 2 none sn none := rfl
end
def eol2 (text : Array Nat) (j : Nat) : Bool := text.getD j 0 == 10 || text.getD j 0 == 13
def len2 (text : Array Nat) (lim j : Nat) : Nat := if text.getD j 0 == 13 && (decide (j + 1 < lim) && text.getD (j + 1) 0 == 10) then 2 else 1
theorem try2 {text : Array Nat} {lim s : Nat} {om : Bool} {sn : Seen} (h : eol2 text s = true) (hl : s < lim) : ∃ n, n ≤ 16 ∧ ∃ f : M, M.runFor n (T2 text lim s false om sn) = f ∧ f.outcome = some .matched ∧ f.start = s ∧ f.handed = s + len2 text lim s := by
  by_cases h1 : text.getD s 0 = 13
  · by_cases h2 : s + 1 < lim ∧ text.getD (s + 1) 0 = 10
    · have e : len2 text lim s = 2 := by unfold len2; rw [h1, h2.2]; simp [h2.1]
      refine ⟨8, by omega, S2 text lim s lim false 10 s (s + 2) om [] 0 (some true) (((((sn.add 7).add 16).add 16).add 15).add 1) (some .matched), ?_, rfl, rfl, by rw [e]⟩
      rw [runFor_succ rfl, st2_branch, runFor_succ rfl, st2_lit 12 13 rfl rfl (by decide) hl h1, runFor_succ rfl, st2_lit 14 10 rfl rfl (by decide) h2.1 h2.2, runFor_succ rfl, st2_jump1, runFor_succ rfl, st2_succ,
        runFor_succ rfl, st2_byes, runFor_succ rfl, st2_yes, runFor_succ rfl, st2_end]
      rfl
    · have e : len2 text lim s = 1 := by
        unfold len2
        rw [if_neg]
        intro q
        simp only [Bool.and_eq_true, beq_iff_eq, decide_eq_true_eq] at q
        exact h2 q.2
      have h3 : ¬ (s < lim ∧ text.getD s 0 = 10) := by rw [h1]; omega
      refine ⟨15, by omega, S2 text lim s lim false 10 s (s + 1) om [] 0 (some true) (((((((((sn.add 7).add 16).add 16).add 16).add 16).add 5).add 16).add 15).add 1) (some .matched), ?_, rfl, rfl, by rw [e]⟩
      rw [runFor_succ rfl, st2_branch, runFor_succ rfl, st2_lit 12 13 rfl rfl (by decide) hl h1, runFor_succ rfl, st2_lit_no 14 10 rfl rfl (by decide) h2, runFor_succ rfl, st2_bno1, runFor_succ rfl, st2_lit_no 19 10 rfl rfl (by decide) h3,
        runFor_succ rfl, st2_bno2, runFor_succ rfl, st2_lit 24 13 rfl rfl (by decide) hl h1, runFor_succ rfl, st2_look, runFor_succ rfl, st2_lit_no 29 10 rfl rfl (by decide) h2, runFor_succ rfl, st2_lookno, runFor_succ rfl, st2_jump3, runFor_succ rfl, st2_succ,
        runFor_succ rfl, st2_byes, runFor_succ rfl, st2_yes, runFor_succ rfl, st2_end]
      rfl
  · have h1' : text.getD s 0 = 10 := by
      unfold eol2 at h
      simp only [Bool.or_eq_true, beq_iff_eq] at h
      exact h.resolve_right h1
    have e : len2 text lim s = 1 := by unfold len2; rw [h1']; simp
    refine ⟨9, by omega, S2 text lim s lim false 10 s (s + 1) om [] 0 (some true) (((((sn.add 7).add 16).add 16).add 15).add 1) (some .matched), ?_, rfl, rfl, by rw [e]⟩
    rw [runFor_succ rfl, st2_branch, runFor_succ rfl, st2_lit_no 12 13 rfl rfl (by decide) (fun q => h1 q.2), runFor_succ rfl, st2_bno1, runFor_succ rfl, st2_lit 19 10 rfl rfl (by decide) hl h1', runFor_succ rfl, st2_jump2, runFor_succ rfl, st2_succ,
      runFor_succ rfl, st2_byes, runFor_succ rfl, st2_yes, runFor_succ rfl, st2_end]
    rfl
theorem inSet2 (c : Nat) (sn : Seen) : ∃ sn', inSet c2 c c2.size 5 true sn = .ok (c == 10 || c == 13, sn') := by
  show ∃ sn', (if c == 10 then Except.ok (true, sn.add 16) else (if c == 13 then Except.ok (true, (sn.add 16).add 16) else Except.ok (!true, ((sn.add 16).add 16).add 0)) : Except String (Bool × Seen)) = _
  by_cases h1 : (c == 10) = true
  · rw [if_pos h1, h1]; exact ⟨_, rfl⟩
  · rw [if_neg h1]
    have h1' : (c == 10) = false := by simpa using h1
    rw [h1']
    by_cases h2 : (c == 13) = true
    · rw [if_pos h2, h2]; exact ⟨_, rfl⟩
    · rw [if_neg h2]
      have h2' : (c == 13) = false := by simpa using h2
      rw [h2']; exact ⟨_, rfl⟩
theorem admitted2 {m : M} (hc : m.code = c2) : ∀ (fuel s : Nat) (sn : Seen), m.lim + 1 - s = fuel → s ≤ m.lim → ∃ sn',
    ((∃ b, s ≤ b ∧ b < m.lim ∧ eol2 m.text b = true ∧ (∀ j, s ≤ j → j < b → eol2 m.text j = false) ∧ m.admitted fuel s sn = .ok (some b, sn')) ∨
     ((∀ j, s ≤ j → j < m.lim → eol2 m.text j = false) ∧ m.admitted fuel s sn = .ok (none, sn'))) := by
  intro fuel
  induction fuel with
  | zero => intro s sn h1 h2; omega
  | succ fuel ih =>
    intro s sn h1 h2
    by_cases hs : s ≥ m.lim
    · refine ⟨sn, .inr ⟨fun j a b => by omega, ?_⟩⟩
      show (if s ≥ m.lim then _ else _) = _
      rw [if_pos hs]
    · obtain ⟨sn', e⟩ := inSet2 (m.text.getD s 0) sn
      have e' : m.admitted (fuel + 1) s sn = (match (Except.ok (m.text.getD s 0 == 10 || m.text.getD s 0 == 13, sn') : Except String (Bool × Seen)) with
          | .ok (true, seen) => .ok (some s, seen) | .ok (false, seen) => m.admitted fuel (s + 1) seen | .error why => .error why) := by
        show (if s ≥ m.lim then _ else (match inSet m.code (m.text.getD s 0) m.code.size 5 true sn with | .ok (true, seen) => .ok (some s, seen) | .ok (false, seen) => m.admitted fuel (s + 1) seen | .error why => .error why) : Except String (Option Nat × Seen)) = _
        rw [if_neg hs, hc, e]
      cases hh : eol2 m.text s with
      | true =>
        refine ⟨sn', .inl ⟨s, Nat.le_refl _, by omega, hh, fun j a b => by omega, ?_⟩⟩
        rw [e']
        unfold eol2 at hh
        rw [hh]
      | false =>
        obtain ⟨sn'', r⟩ := ih (s + 1) sn' (by omega) (by omega)
        have e'' : m.admitted (fuel + 1) s sn = m.admitted fuel (s + 1) sn' := by
          rw [e']
          have hh' := hh
          unfold eol2 at hh'
          rw [hh']
        refine ⟨sn'', ?_⟩
        rw [e'']
        rcases r with ⟨b, q1, q2, q3, q4, q5⟩ | ⟨q1, q2⟩
        · refine .inl ⟨b, by omega, q2, q3, fun j hj1 hj2 => ?_, q5⟩
          by_cases q : j = s
          · rw [q]; exact hh
          · exact q4 j (by omega) hj2
        · refine .inr ⟨fun j hj1 hj2 => ?_, q2⟩
          by_cases q : j = s
          · rw [q]; exact hh
          · exact q1 j (by omega) hj2
theorem search2 (text : Array Nat) (lim s : Nat) (must : Bool) (hs : s ≤ lim) : ∃ n, n ≤ 16 ∧ ∃ f, M.runFor n (forSearch c2 text 0 s lim must) = f ∧
    ((∃ b, s ≤ b ∧ b < lim ∧ eol2 text b = true ∧ (∀ j, s ≤ j → j < b → eol2 text j = false) ∧ f.outcome = some .matched ∧ f.start = b ∧ f.handed = b + len2 text lim b) ∨
     ((∀ j, s ≤ j → j < lim → eol2 text j = false) ∧ f.outcome = some .failed)) := by
  by_cases h : s = lim
  · subst h
    refine ⟨1, by omega, _, rfl, .inr ⟨fun j h1 h2 => by omega, ?_⟩⟩
    have e : forSearch c2 text 0 s s must = S2 text s s 0 must 10 s s true [] 0 (some false) (({} : Seen).add 14) none := by
      show (if (decide (s > s) || decide (s - s < 1)) = true then _ else _) = _
      rw [if_pos (by simp)]; rfl
    rw [e, runFor_one rfl, st2_end]; rfl
  · have e : forSearch c2 text 0 s lim must = (S2 text lim s lim must 10 s s true [] 0 none (({} : Seen).add 14) none).attemptFrom s true := by
      show (if (decide (s > lim) || decide (lim - s < 1)) = true then _ else _) = _
      rw [if_neg (by simp; omega)]; rfl
    obtain ⟨sn', r⟩ := admitted2 (m := S2 text lim s lim must 10 s s true [] 0 none (({} : Seen).add 14) none) rfl (lim + 1 - s) s (({} : Seen).add 14) rfl hs
    have e2 : (S2 text lim s lim must 10 s s true [] 0 none (({} : Seen).add 14) none).attemptFrom s true =
        (match (S2 text lim s lim must 10 s s true [] 0 none (({} : Seen).add 14) none).admitted (lim + 1 - s) s (({} : Seen).add 14) with
          | .ok (some s', seen) => { (S2 text lim s lim must 10 s s true [] 0 none (({} : Seen).add 14) none) with mustAdvance := false, seen }.attemptAt s' true
          | .ok (none, seen) => { (S2 text lim s lim must 10 s s true [] 0 none (({} : Seen).add 14) none) with seen }.say false
          | .error why => (S2 text lim s lim must 10 s s true [] 0 none (({} : Seen).add 14) none).stick why) := rfl
    rcases r with ⟨b, q1, q2, q3, q4, q5⟩ | ⟨q1, q2⟩
    · rw [q5] at e2
      have e3 : forSearch c2 text 0 s lim must = T2 text lim b false true sn' := e.trans e2
      obtain ⟨n, hn, f, ef, h1, h2, h3⟩ := try2 (om := true) (sn := sn') q3 q2
      exact ⟨n, hn, f, by rw [e3, ef], .inl ⟨b, q1, q2, q3, q4, h1, h2, h3⟩⟩
    · rw [q2] at e2
      refine ⟨1, by omega, _, rfl, .inr ⟨q1, ?_⟩⟩
      rw [e.trans e2]
      rfl
end Mine
end

noncomputable section
set_option maxRecDepth 100000
namespace Mine
open PySem PySem.Sre PySem.Builtin.Re
section
variable {MM : Model} {A : Around} {E : Value → Shared → Prop} {s : Shared}
theorem wp_reDrive {Q : Sre.M → Shared → Prop} {f : Sre.M} (hf : f.outcome.isSome = true) (hq : Q f s) :
    ∀ (turns n : Nat) (m : Sre.M), M.runFor n m = f → n ≤ 4 * turns → wpAny MM A (reDrive (turns + 1) m) Q E s := by
  intro turns
  induction turns with
  | zero =>
    intro n m h hn
    have : n = 0 := by omega
    subst this
    have hm : m = f := h
    show wpAny MM A (if (m.runFor 4).outcome.isSome = true then pure (m.runFor 4) else _) Q E s
    rw [hm, runFor_done hf, if_pos hf]
    exact wpAny_pure hq
  | succ turns ih =>
    intro n m h hn
    show wpAny MM A (if (m.runFor 4).outcome.isSome = true then pure (m.runFor 4) else (do rule "sre.turn"; reDrive (turns + 1) (m.runFor 4))) Q E s
    by_cases hd : (m.runFor 4).outcome.isSome = true
    · rw [if_pos hd]
      have : m.runFor 4 = f := by
        by_cases h4 : n ≤ 4
        · exact runFor_ge h hf h4
        · have e := runFor_add 4 (n - 4) m
          rw [show 4 + (n - 4) = n by omega, h, runFor_done hd] at e
          exact e.symm
      rw [this]
      exact wpAny_pure hq
    · rw [if_neg hd]
      have h4 : ¬ n ≤ 4 := fun h4 => hd (by rw [runFor_ge h hf h4]; exact hf)
      have e := runFor_add 4 (n - 4) m
      rw [show 4 + (n - 4) = n by omega, h] at e
      exact wpAny_bind (wpAny_rule (ih (n - 4) _ e.symm (by omega)))
theorem wp_reRunToEnd {Q : Option Sre.M → Shared → Prop} {f m : Sre.M} {n : Nat} (h : M.runFor n m = f) (hn : n ≤ 70000000000000000000)
    (ho : (f.outcome = some .matched ∧ Q (some f) s) ∨ (f.outcome = some .failed ∧ Q none s)) : wpAny MM A (reRunToEnd m) Q E s := by
  unfold reRunToEnd
  refine wpAny_bind ?_
  rw [show (2 : Nat) ^ 64 = 18446744073709551615 + 1 from by decide]
  refine wp_reDrive (f := f) (by rcases ho with ⟨h, _⟩ | ⟨h, _⟩ <;> rw [h] <;> rfl) ?_ _ n m h (by omega)
  refine wpAny_bind ?_
  refine wpAny_forIn_list _ (fun _ _ s' => s' = s) _ ?_ ?_ _ _ rfl
  · rintro x rest b s' rfl
    split
    · exact wpAny_bind (wpAny_rule (wpAny_pure rfl))
    · exact wpAny_pure rfl
  · rintro b s' rfl
    rcases ho with ⟨h, hq⟩ | ⟨h, hq⟩
    · rw [h]; exact wpAny_pure hq
    · rw [h]; exact wpAny_pure hq
def PatAt (h : Heap) (P : Addr) (code : Array Nat) : Prop :=
  ∃ (fs : Array Value) (T : Addr) (ws : Array Value) (n : Nat), h.get? P = some { cls := .type "re.Pattern", data := .fields fs } ∧ fs.getD 5 .none = .ref T ∧ reRawNat (fs.getD 2 .none) = 0 ∧ reRawNat (fs.getD 6 .none) = 0 ∧
    h.get? T = some { cls := .type "tuple", data := .seq ws n } ∧ (ws.map reRawOf).map (·.toNat) = code
theorem PatAt.but {h h' : Heap} {P D : Addr} {code : Array Nat} {o : Obj} (x : PatAt h P code) (hD : h.get? D = some o) (hc : o.cls = .type "list") (hk : ∀ b o, b ≠ D → h.get? b = some o → h'.get? b = some o) : PatAt h' P code := by
  obtain ⟨fs, T, ws, n, h1, h2, h3, h4, h5, h6⟩ := x
  have e1 : P ≠ D := fun q => by rw [q, hD] at h1; cases h1; simp at hc
  have e2 : T ≠ D := fun q => by rw [q, hD] at h5; cases h5; simp at hc
  exact ⟨fs, T, ws, n, hk _ _ e1 h1, h2, h3, h4, hk _ _ e2 h5, h6⟩
abbrev tgt (P : Addr) (x : Str) (t : Tok) (code : Array Nat) : ReTarget := { pattern := .ref P, string := .str x t, code := code, text := x.cps, kind := 0, groups := 0, pos := 0, lim := x.cps.size }
theorem wp_whole {P : Addr} {x : Str} {t : Tok} {code : Array Nat} {Q : ReTarget → Shared → Prop} (hp : PatAt s.heap P code) (h : Q (tgt P x t code) s) : wpAny MM A (reWholeTarget (.ref P) (.str x t)) Q E s := by
  obtain ⟨fs, T, ws, n, h1, h2, h3, h4, h5, h6⟩ := hp
  unfold reWholeTarget
  refine wpAny_bind (wpAny_fieldsOf h1 rfl ?_)
  refine wpAny_bind (m := reTextOf (.str x t)) ?_
  refine wpAny_of_eq (a := (x.cps, 0)) rfl ?_
  simp only [h4]
  refine wpAny_bind (m := reRawItems (fs.getD 5 .none)) ?_
  rw [h2]
  unfold reRawItems
  refine wpAny_bind (wpAny_seqItems h5 rfl (wpAny_pure ?_))
  rw [h3]
  refine wpAny_pure ?_
  have e : Array.map (fun x => x.toNat) (Array.map reRawOf ((some ws).getD #[])) = code := h6
  rw [e]
  exact h
end
structure Srch (code : Array Nat) (hit : Array Nat → Nat → Bool) (ln : Array Nat → Nat → Nat) : Prop where
  pos : ∀ text j, 1 ≤ ln text j
  within : ∀ text j, j < text.size → j + ln text j ≤ text.size
  run : ∀ (text : Array Nat) (s : Nat) (must : Bool), s ≤ text.size → ∃ n, n ≤ 4 * text.size + 16 ∧ ∃ f, M.runFor n (forSearch code text 0 s text.size must) = f ∧
    ((∃ b, s ≤ b ∧ b < text.size ∧ hit text b = true ∧ (∀ j, s ≤ j → j < b → hit text j = false) ∧ f.outcome = some .matched ∧ f.start = b ∧ f.handed = b + ln text b) ∨
     ((∀ j, s ≤ j → j < text.size → hit text j = false) ∧ f.outcome = some .failed))
theorem srch1 : Srch c1 hit1 (fun _ _ => 1) := ⟨fun _ _ => Nat.le_refl _, fun _ _ h => h, fun text s must hs => by
  obtain ⟨n, hn, f, e, r⟩ := search1 text text.size s must hs
  exact ⟨n, by omega, f, e, r⟩⟩
theorem len2_two (text : Array Nat) (lim j : Nat) : (len2 text lim j = 2 ∧ j + 1 < lim) ∨ len2 text lim j = 1 := by
  unfold len2
  by_cases q : (text.getD j 0 == 13 && (decide (j + 1 < lim) && text.getD (j + 1) 0 == 10)) = true
  · rw [if_pos q]
    simp only [Bool.and_eq_true, decide_eq_true_eq] at q
    exact .inl ⟨rfl, q.2.1⟩
  · rw [if_neg q]; exact .inr rfl
theorem srch2 : Srch c2 eol2 (fun text => len2 text text.size) := ⟨fun text j => by have := len2_two text text.size j; omega, fun text j h => by have := len2_two text text.size j; omega, fun text s must hs => by
  obtain ⟨n, hn, f, e, r⟩ := search2 text text.size s must hs
  exact ⟨n, by omega, f, e, r⟩⟩
/-- what is to come out from a place on -/
structure Outs (text : Array Nat) (repl : List Nat) (hit : Array Nat → Nat → Bool) (ln : Array Nat → Nat → Nat) (out : Nat → List Nat) : Prop where
  fin : ∀ i, text.size ≤ i → out i = []
  yes : ∀ i, i < text.size → hit text i = true → out i = repl ++ out (i + ln text i)
  no : ∀ i, i < text.size → hit text i = false → out i = text.getD i 0 :: out (i + 1)
theorem Outs.run {text : Array Nat} {repl : List Nat} {hit : Array Nat → Nat → Bool} {ln : Array Nat → Nat → Nat} {out : Nat → List Nat} (x : Outs text repl hit ln out) {b : Nat} (hb : b ≤ text.size) :
    ∀ (k i : Nat), b - i = k → i ≤ b → (∀ j, i ≤ j → j < b → hit text j = false) → out i = (text.extract i b).toList ++ out b := by
  intro k
  induction k with
  | zero =>
    intro i h1 h2 _
    have : i = b := by omega
    subst this
    simp
  | succ k ih =>
    intro i h1 h2 h3
    rw [x.no i (by omega) (h3 i (Nat.le_refl _) (by omega)), ih (i + 1) (by omega) (by omega) (fun j a c => h3 j (by omega) c)]
    have hi : i < text.size := by omega
    have e : (text.extract i b).toList = text.getD i 0 :: (text.extract (i + 1) b).toList := by
      simp only [Array.toList_extract, List.extract_eq_take_drop]
      have : text.toList.drop i = text[i] :: text.toList.drop (i + 1) := by
        rw [← Array.getElem_toList, List.drop_eq_getElem_cons]
      rw [this, show b - i = (b - (i + 1)) + 1 by omega, List.take_succ_cons]
      congr 1
      simp [Array.getD, hi]
    rw [e]; rfl
namespace F
theorem plain_sub_loop : plainId "re.Pattern.sub.loop" = true := by decide +kernel
theorem entry_sub_loop : entryFor table "re.Pattern.sub.loop" = some Builtin.«re.Pattern.sub.loop» := entryFor_of_tree (by kernel_rfl)
theorem plain_sub : plainId "re.Pattern.sub" = true := by decide +kernel
theorem entry_sub : entryFor table "re.Pattern.sub" = some Builtin.«re.Pattern.sub» := entryFor_of_tree (by kernel_rfl)
theorem slot_sub : Slot "re.Pattern" "sub" "re.Pattern.sub" :=
  .of (owner := "re.Pattern") (n := "sub") (by rw [typeLookup_type, builtinLookup_eq_fast]; kernel_rfl) (by decide +kernel) (by decide +kernel) (by decide +kernel)
    (by first | exact .inl (by decide +kernel) | exact .inr (by decide +kernel)) (by rw [isSubtype_type]; kernel_rfl)
theorem type_sub : typeOf (.builtin "re.Pattern.sub") = pure (.type "method_descriptor") := by kernel_rfl
theorem attrs_pattern : PlainAttrs "re.Pattern" := ⟨⟨"object.__getattribute__", by rw [typeLookup_type, builtinLookup_eq_fast]; kernel_rfl, by decide +kernel⟩, by rw [typeLookup_type, builtinLookup_eq_fast]; kernel_rfl⟩
theorem args_sub (a b c : Value) : argsOk "re.Pattern.sub" ⟨[a, b, c], []⟩ := by unfold argsOk; kernel_rfl
theorem str_no_call : typeLookup (.type "str") "__call__" = pure none := by rw [typeLookup_type, builtinLookup_eq_fast]; kernel_rfl
end F
end Mine
end

noncomputable section
set_option maxRecDepth 100000
namespace Mine
open PySem PySem.Sre PySem.Builtin.Re
theorem join_nil_flat : ∀ ts : List Str, (Txt.join ⟨#[]⟩ ts).cps.toList = (ts.map (·.cps.toList)).flatten := by
  intro ts
  show (Builtin.Str.glued ⟨#[]⟩ ts).cps.toList = _
  rw [StrLaws.glued_eq_join]
  induction ts with
  | nil => rfl
  | cons a r ih =>
    cases r with
    | nil => simp [Str.join]
    | cons b r =>
      show (a ++ ⟨#[]⟩ ++ Str.join ⟨#[]⟩ (b :: r)).cps.toList = _
      rw [Str.cps_append, Str.cps_append, Array.toList_append, Array.toList_append, ih]
      simp
theorem strValues_snoc (l : List (Str × Tok)) (x : Str) (t : Tok) : (strValues l).toArray.push (.str x t) = (strValues (l ++ [(x, t)])).toArray := by
  simp [strValues]
theorem mapSeq_some (f : Array Value → Array Value) (xs : Array Value) (c : Nat) : ∃ c', Obj.mapSeq f ({ cls := .type "list", data := .seq xs c } : Obj) = { cls := .type "list", data := .seq (f xs) c' } := ⟨_, rfl⟩
section
variable {prog : Program} {w : World} {A : Around}
theorem sub_loop {code : Array Nat} {hit : Array Nat → Nat → Bool} {ln : Array Nat → Nat → Nat} (SR : Srch code hit ln) {x : Str} {t : Tok} {repl : Str} {u : Tok} {out : Nat → List Nat}
    (O : Outs x.cps repl.cps.toList hit ln out) (hx : x.cps.size ≤ 2000) (hrl : repl.length ≤ 2000) {P D : Addr} {R : Result → Shared → Prop} :
    ∀ (k done n : Nat) (must : Bool) (s : Shared) (l : List (Str × Tok)) (c : Nat), x.cps.size - done = k → done ≤ x.cps.size → PatAt s.heap P code →
      s.heap.get? D = some { cls := .type "list", data := .seq (strValues l).toArray c } → l.length ≤ 2 * done → (∀ p ∈ l, p.1.length ≤ 2000) →
      (∀ h' tk y t', (∀ b o, b ≠ D → s.heap.get? b = some o → h'.get? b = some o) → y.cps.toList = (l.map (·.1.cps.toList)).flatten ++ out done → R (.ok (.ret (.str y t'))) { s with heap := h', toks := tk }) →
      codeAny (model prog w) A (.builtin "re.Pattern.sub.loop" ⟨[.ref P, .str x t, .str repl u, rawInt 0, rawInt 0, rawInt n, rawInt done, rawInt done, .bool must, .ref D, .bool false], []⟩) R s := by
  intro k
  induction k using Nat.strongRecOn with
  | ind k ih =>
  intro done n must s l c hk hd hp hD hl hB hR
  have hsl : sizeLine = 16777216 := by rw [sizeLine_eq]
  refine codeAny_builtin F.entry_sub_loop ?_
  rw [Around.under_plainId F.plain_sub_loop _]
  show wpAny _ A.in1 (reWholeTarget (.ref P) (.str x t) >>= fun tg => _) _ _ s
  refine wpAny_bind (wp_whole hp ?_)
  show wpAny _ A.in1 (reNextFound (tgt P x t code) done must >>= fun r => _) _ _ s
  unfold reNextFound
  obtain ⟨nn, hn, f, e, r⟩ := SR.run x.cps done must hd
  refine wpAny_bind (wp_reRunToEnd e (by omega) ?_)
  have slice_len : ∀ a b, b ≤ x.cps.size → (⟨x.cps.extract a b⟩ : Str).length ≤ 2000 := fun a b hb => by show (x.cps.extract a b).size ≤ 2000; simp; omega
  rcases r with ⟨b, h1, h2, h3, h4, h5, h6, h7⟩ | ⟨h1, h2⟩
  · refine .inl ⟨h5, ?_⟩
    have hpos := SR.pos x.cps b
    have hwit := SR.within x.cps b h2
    dsimp only
    rw [h6, h7]
    have hkeep : ∀ {h h' : Heap} {g : Obj → Obj}, h' = h.update D g → ∀ b o, b ≠ D → h.get? b = some o → h'.get? b = some o := fun e b o hb q => by
      rw [e]; exact (Heap.get?_update_other _ _ (Ne.symm hb)).trans q
    -- behind the pieces
    have tail : ∀ (s₁ : Shared) (l₁ : List (Str × Tok)) (c₁ : Nat), s₁.heap.get? D = some { cls := .type "list", data := .seq (strValues l₁).toArray c₁ } → PatAt s₁.heap P code → l₁.length ≤ 2 * done + 1 → (∀ p ∈ l₁, p.1.length ≤ 2000) →
        (∀ h' tk y t', (∀ b o, b ≠ D → s₁.heap.get? b = some o → h'.get? b = some o) → y.cps.toList = (l₁.map (·.1.cps.toList)).flatten ++ out b → R (.ok (.ret (.str y t'))) { s₁ with heap := h', toks := tk }) →
        wpAny (model prog w) A.in1 (updateSeq D (·.push (.str repl u)) >>= fun _ => again (.builtin "re.Pattern.sub.loop" ⟨[.ref P, .str x t, .str repl u, rawInt 0, rawInt 0, rawInt ((n : Int) + 1), rawInt ((b + ln x.cps b : Nat) : Int), rawInt ((b + ln x.cps b : Nat) : Int), .bool (b + ln x.cps b == b), .ref D, .bool false], []⟩))
          (fun fin s' => match fin with | .done f => R (.ok f) s' | .again c' => c'.quiet = true ∧ codeAny (model prog w) A c' R s') (fun e s' => R (.error e) s') s₁ := by
      intro s₁ l₁ c₁ hD₁ hp₁ hl₁ hB₁ hR₁
      refine wpAny_bind (wpAny_updateSeq hD₁ rfl ?_ (by simp [strValues]; omega) (by simp [strValues]; omega))
      refine wpAny_pure ⟨plainId_quiet F.plain_sub_loop _, ?_⟩
      have hD₂ := Heap.get?_update_self (Obj.mapSeq (·.push (Value.str repl u))) hD₁ rfl
      obtain ⟨c', hc'⟩ := mapSeq_some (·.push (Value.str repl u)) (strValues l₁).toArray c₁
      rw [hc', strValues_snoc] at hD₂
      refine ih (x.cps.size - (b + ln x.cps b)) (by omega) (b + ln x.cps b) (n + 1) _ _ (l₁ ++ [(repl, u)]) c' rfl hwit (hp₁.but hD₁ rfl (hkeep rfl)) hD₂ ?_ ?_ ?_
      · rw [List.length_append, List.length_singleton]; omega
      · intro p hp
        rcases List.mem_append.mp hp with q | q
        · exact hB₁ p q
        · rw [List.mem_singleton.mp q]; exact hrl
      · intro h' tk y t' hk' hy
        refine hR₁ h' tk y t' (fun b' o' hb' q => hk' b' o' hb' (hkeep rfl b' o' hb' q)) ?_
        rw [hy, O.yes b h2 h3]
        simp
    show wpAny _ A.in1 (if ((done : Int).toNat < b) then _ else _) _ _ s
    have hout := O.run (Nat.le_of_lt h2) (b - done) done rfl h1 h4
    have hdn : ((done : Nat) : Int).toNat = done := Int.toNat_natCast done
    rw [hdn]
    by_cases hlt : done < b
    · rw [if_pos hlt]
      refine wpAny_bind ?_
      refine wpAny_mkStr (x := ⟨x.cps.extract done b⟩) ?_ (by have := slice_len done b (by omega); omega)
      refine wpAny_bind (wpAny_updateSeq (s := { s with toks := s.toks + 1 }) hD rfl ?_ (by simp [strValues]; omega) (by simp [strValues]; omega))
      have hD₂ := Heap.get?_update_self (Obj.mapSeq (·.push (Value.str ⟨x.cps.extract done b⟩ s.toks))) hD rfl
      obtain ⟨c', hc'⟩ := mapSeq_some (·.push (Value.str ⟨x.cps.extract done b⟩ s.toks)) (strValues l).toArray c
      rw [hc', strValues_snoc] at hD₂
      refine tail _ (l ++ [(⟨x.cps.extract done b⟩, s.toks)]) c' hD₂ (hp.but hD rfl (hkeep rfl)) ?_ ?_ ?_
      · rw [List.length_append, List.length_singleton]; omega
      · intro p hp
        rcases List.mem_append.mp hp with q | q
        · exact hB p q
        · rw [List.mem_singleton.mp q]; exact slice_len _ _ (by omega)
      · intro h' tk y t' hk' hy
        refine hR h' tk y t' (fun b' o' hb' q => hk' b' o' hb' (hkeep rfl b' o' hb' q)) ?_
        rw [hy, hout]
        simp
    · rw [if_neg hlt]
      have : b = done := by omega
      subst this
      exact tail s l c hD hp (by omega) hB (fun h' tk y t' hk' hy => hR h' tk y t' hk' hy)
  · refine .inr ⟨h2, ?_⟩
    dsimp only
    have hdn : ((done : Nat) : Int).toNat = done := Int.toNat_natCast done
    have hout : out done = (x.cps.extract done x.cps.size).toList := by
      rw [O.run (Nat.le_refl _) (x.cps.size - done) done rfl hd h1, O.fin _ (Nat.le_refl _)]; simp
    have hkeep : ∀ {h h' : Heap} {g : Obj → Obj}, h' = h.update D g → ∀ b o, b ≠ D → h.get? b = some o → h'.get? b = some o := fun e b o hb q => by
      rw [e]; exact (Heap.get?_update_other _ _ (Ne.symm hb)).trans q
    have tail : ∀ (s₁ : Shared) (l₁ : List (Str × Tok)) (c₁ : Nat), s₁.heap.get? D = some { cls := .type "list", data := .seq (strValues l₁).toArray c₁ } → l₁.length ≤ 2 * done + 1 → (∀ p ∈ l₁, p.1.length ≤ 2000) →
        (∀ tk y t', y.cps.toList = (l₁.map (·.1.cps.toList)).flatten → R (.ok (.ret (.str y t'))) { s₁ with toks := tk }) →
        wpAny (model prog w) A.in1 (do
            let joiner ← reSlice x.cps 0 0 0
            let text ← if ((← seqItems? (.ref D)).getD #[]).isEmpty then pure joiner else call (.builtin (if (0 : Nat) == 0 then "str.join" else "bytes.join")) [joiner, .ref D]
            if false = true then ret (← holding [text] do newTuple [text, ← mkInt n]) else ret text)
          (fun fin s' => match fin with | .done f => R (.ok f) s' | .again c' => c'.quiet = true ∧ codeAny (model prog w) A c' R s') (fun e s' => R (.error e) s') s₁ := by
      intro s₁ l₁ c₁ hD₁ hl₁ hB₁ hR₁
      refine wpAny_bind (wpAny_mkStr (x := ⟨x.cps.extract 0 0⟩) ?_ (by have := slice_len 0 0 (by omega); omega))
      refine wpAny_bind (wpAny_seqItems (s := { s₁ with toks := s₁.toks + 1 }) hD₁ rfl ?_)
      have e0 : (⟨x.cps.extract 0 0⟩ : Str) = ⟨#[]⟩ := by simp
      rw [e0]
      by_cases hz : l₁ = []
      · subst hz
        show wpAny _ A.in1 (pure (Value.str ⟨#[]⟩ s₁.toks) >>= fun text => ret text) _ _ _
        exact wpAny_bind (wpAny_pure (wpAny_pure (hR₁ _ _ _ (by simp))))
      · have he : ((some (strValues l₁).toArray).getD #[]).isEmpty = false := by
          cases l₁ with
          | nil => exact absurd rfl hz
          | cons a r => rfl
        rw [he]
        show wpAny _ A.in1 (call (.builtin "str.join") [Value.str ⟨#[]⟩ s₁.toks, .ref D] >>= fun text => ret text) _ _ _
        refine wpAny_bind (SC.join (l := l₁) (texts := l₁.map (·.1)) ⟨_, hD₁, rfl, _, rfl⟩ rfl ?_ fun t' k => wpAny_pure (hR₁ _ _ _ ?_))
        · unfold JoinOk
          rw [StrLaws.joinFits (B := 2000) (fun y hy => by
            obtain ⟨p, hp, rfl⟩ := List.mem_map.mp hy
            exact hB₁ p hp) (by rw [List.length_map]; show l₁.length * 2000 + l₁.length * 0 ≤ 16777216; omega)]
          rfl
        · rw [join_nil_flat, List.map_map]; rfl
    show wpAny _ A.in1 (if ((done : Int).toNat < x.cps.size) then _ else _) _ _ s
    rw [hdn]
    by_cases hlt : done < x.cps.size
    · rw [if_pos hlt]
      refine wpAny_bind ?_
      refine wpAny_mkStr (x := ⟨x.cps.extract done x.cps.size⟩) ?_ (by have := slice_len done x.cps.size (by omega); omega)
      refine wpAny_bind (wpAny_updateSeq (s := { s with toks := s.toks + 1 }) hD rfl ?_ (by simp [strValues]; omega) (by simp [strValues]; omega))
      have hD₂ := Heap.get?_update_self (Obj.mapSeq (·.push (Value.str ⟨x.cps.extract done x.cps.size⟩ s.toks))) hD rfl
      obtain ⟨c', hc'⟩ := mapSeq_some (·.push (Value.str ⟨x.cps.extract done x.cps.size⟩ s.toks)) (strValues l).toArray c
      rw [hc', strValues_snoc] at hD₂
      refine tail _ (l ++ [(⟨x.cps.extract done x.cps.size⟩, s.toks)]) c' hD₂ ?_ ?_ ?_
      · rw [List.length_append, List.length_singleton]; omega
      · intro p hp
        rcases List.mem_append.mp hp with q | q
        · exact hB p q
        · rw [List.mem_singleton.mp q]; exact slice_len _ _ (by omega)
      · intro tk y t' hy
        refine hR _ tk y t' (hkeep rfl) ?_
        rw [hy, hout]
        simp
    · rw [if_neg hlt]
      refine tail s l c hD (by omega) hB (fun tk y t' hy => hR _ tk y t' (fun _ _ _ q => q) ?_)
      rw [hy, O.fin _ (by omega)]; simp
theorem sub_call {E : Value → Shared → Prop} {s : Shared} {code : Array Nat} {hit : Array Nat → Nat → Bool} {ln : Array Nat → Nat → Nat} (SR : Srch code hit ln) {x : Str} {t : Tok} {repl : Str} {u : Tok} {out : Nat → List Nat}
    (O : Outs x.cps repl.cps.toList hit ln out) (hx : x.cps.size ≤ 2000) (hrl : repl.length ≤ 2000) (hlit : repl.cps.contains 92 = false) {P : Addr} {Q : Value → Shared → Prop} (hp : PatAt s.heap P code)
    (h : ∀ h' tk y t', (∀ b o, s.heap.get? b = some o → h'.get? b = some o) → y.cps.toList = out 0 → Q (.str y t') { s with heap := h', toks := tk }) :
    wpAny (model prog w) A (call (.builtin "re.Pattern.sub") [.ref P, .str repl u, .str x t]) Q E s := by
  refine call_meets F.slot_sub (by obtain ⟨fs, T, ws, n, h1, _⟩ := hp; exact ⟨_, h1, rfl⟩) F.entry_sub (F.args_sub _ _ _) (S := fun A R s' => s' = s ∧ ∀ v s', Q v s' → R (.ok (.ret v)) s') ?_ ⟨rfl, fun _ _ q => q⟩
  rintro prog w A R s' ⟨rfl, hR⟩
  show wpAny _ A.in1 (reSubstitute "re.Pattern.sub" "sub" false ⟨[.ref P, .str repl u, .str x t], []⟩) _ _ s'
  unfold reSubstitute
  refine wpAny_bind (wpAny_of_eq (a := [some (.str repl u), some (.str x t), none]) rfl ?_)
  refine wpAny_bind (m := pure 0) (wpAny_pure ?_)
  refine wpAny_bind (wpAny_specialOf (typeIs_str _ _ _) F.str_no_call ?_)
  dsimp only [Option.isSome_none]
  rw [if_neg Bool.false_ne_true]
  refine wpAny_bind (wpAny_of_eq (a := some repl) rfl ?_)
  dsimp only
  refine wpAny_bind (wpAny_pure ?_)
  rw [if_neg Bool.false_ne_true, hlit]
  rw [if_pos (show (!false) = true from rfl)]
  refine wpAny_bind (wpAny_pure ?_)
  refine wpAny_bind (wpAny_holding (wp_whole hp ?_))
  refine wpAny_bind (m := newList []) (wpAny_newList ?_ (by simp))
  refine wpAny_pure ⟨plainId_quiet F.plain_sub_loop _, ?_⟩
  have hnew : (s'.heap.push { cls := .type "list", data := .seq ([] : List Value).toArray }).get? s'.heap.objs.size = some { cls := .type "list", data := .seq (strValues []).toArray 0 } := Heap.get?_push_size _ rfl
  refine sub_loop SR O hx hrl x.cps.size 0 0 false _ [] 0 rfl (Nat.zero_le _) ?_ hnew (Nat.zero_le _) (fun p hp => nomatch hp) ?_
  · obtain ⟨fs, T, ws, n, h1, h2, h3, h4, h5, h6⟩ := hp
    exact ⟨fs, T, ws, n, Heap.get?_push_of_some _ h1, h2, h3, h4, Heap.get?_push_of_some _ h5, h6⟩
  · intro h' tk y t' hk hy
    refine hR _ _ (h h' tk y t' (fun b o q => hk b o (Nat.ne_of_lt (Heap.lt_size q)) (Heap.get?_push_of_some _ q)) (by simpa using hy))
theorem sub_method {MM : Model} {A : Around} {E : Value → Shared → Prop} {s : Shared} {code : Array Nat} {P : Addr} {pl : Sem Bool} {Q : Value × List Value → Shared → Prop} (hp : PatAt s.heap P code) (h : Q (.builtin "re.Pattern.sub", [.ref P]) s) :
    wpAny MM A (getMethod (.ref P) "sub" pl) Q E s := by
  obtain ⟨fs, T, ws, n, h1, _⟩ := hp
  exact getMethod_builtin ⟨_, h1, rfl⟩ F.attrs_pattern F.slot_sub F.type_sub (fun a e => by cases e; exact ⟨_, h1, rfl⟩) h
end
end Mine
end

noncomputable section
namespace Mine
open PySem PySem.Sre PySem.Builtin.Re
noncomputable def fix : List Nat → List Nat
  | [] => []
  | 13 :: 10 :: r => 13 :: 10 :: fix r
  | c :: r => if c = 10 ∨ c = 13 then 13 :: 10 :: fix r else c :: fix r
noncomputable def stuff : Bool → List Nat → List Nat
  | _, [] => []
  | b, c :: r => if b = true ∧ c = 46 then 46 :: 46 :: stuff false r else c :: stuff (c == 10) r
theorem fix_two (r : List Nat) : fix (13 :: 10 :: r) = 13 :: 10 :: fix r := by rw [fix]
theorem fix_eol {c : Nat} {r : List Nat} (hc : c = 10 ∨ c = 13) (h : ¬ (c = 13 ∧ r.head? = some 10)) : fix (c :: r) = 13 :: 10 :: fix r := by
  rw [fix.eq_3]
  · rw [if_pos hc]
  · rintro r' rfl rfl
    exact h ⟨rfl, rfl⟩
theorem fix_other {c : Nat} {r : List Nat} (h1 : c ≠ 10) (h2 : c ≠ 13) : fix (c :: r) = c :: fix r := by
  rw [fix.eq_3]
  · rw [if_neg (by omega)]
  · rintro r' rfl rfl; exact h2 rfl
theorem getD_drop (text : Array Nat) {i : Nat} (h : i < text.size) : text.toList.drop i = text.getD i 0 :: text.toList.drop (i + 1) := by
  rw [List.drop_eq_getElem_cons (by simpa using h)]
  congr 1
  simp [Array.getD, h]
theorem outs_fix (text : Array Nat) : Outs text [13, 10] eol2 (fun text => len2 text text.size) (fun i => fix (text.toList.drop i)) where
  fin := fun i h => by rw [List.drop_eq_nil_of_le (by simpa using h)]; rfl
  yes := fun i h he => by
    rw [getD_drop text h]
    unfold eol2 at he
    simp only [Bool.or_eq_true, beq_iff_eq] at he
    unfold len2
    by_cases q : (text.getD i 0 == 13 && (decide (i + 1 < text.size) && text.getD (i + 1) 0 == 10)) = true
    · rw [if_pos q]
      simp only [Bool.and_eq_true, decide_eq_true_eq, beq_iff_eq] at q
      rw [getD_drop text q.2.1, q.1, q.2.2, fix_two]
      rfl
    · rw [if_neg q, fix_eol he]
      · rfl
      · rintro ⟨h1, h2⟩
        apply q
        have hs : i + 1 < text.size := by
          rcases Nat.lt_or_ge (i + 1) text.size with a | a
          · exact a
          · rw [List.drop_eq_nil_of_le (by simpa using a)] at h2; cases h2
        rw [getD_drop text hs] at h2
        have h2' : text.getD (i + 1) 0 = 10 := by simpa using h2
        rw [h1, h2']; simp [hs]
  no := fun i h he => by
    rw [getD_drop text h]
    unfold eol2 at he
    simp only [Bool.or_eq_false_iff, beq_eq_false_iff_ne] at he
    rw [fix_other he.1 he.2]
theorem outs_stuff (text : Array Nat) : Outs text [46, 46] hit1 (fun _ _ => 1) (fun i => stuff (i == 0 || text.getD (i - 1) 0 == 10) (text.toList.drop i)) where
  fin := fun i h => by rw [List.drop_eq_nil_of_le (by simpa using h)]; rfl
  yes := fun i h he => by
    rw [getD_drop text h]
    unfold hit1 at he
    simp only [Bool.and_eq_true, beq_iff_eq] at he
    rw [stuff, if_pos ⟨he.1, he.2⟩]
    have : (i + 1 == 0 || text.getD (i + 1 - 1) 0 == 10) = false := by rw [Nat.add_sub_cancel, he.2]; rfl
    rw [this]; rfl
  no := fun i h he => by
    rw [getD_drop text h]
    unfold hit1 at he
    rw [stuff, if_neg]
    · have : (i + 1 == 0 || text.getD (i + 1 - 1) 0 == 10) = (text.getD i 0 == 10) := by rw [Nat.add_sub_cancel]; rfl
      rw [this]
    · rintro ⟨a, b⟩
      rw [a, b] at he; cases he
def mkS (l : List Nat) : Str := ⟨l.toArray⟩
theorem mkS_toList (l : List Nat) : (mkS l).cps.toList = l := rfl
theorem mkS_of {x : Str} {l : List Nat} (h : x.cps.toList = l) : x = mkS l := by
  subst h; cases x; rfl
def lst (x : Str) : List Nat := x.cps.toList
theorem mkS_lst (x : Str) : mkS (lst x) = x := by cases x; rfl
theorem lst_mkS (l : List Nat) : lst (mkS l) = l := rfl
theorem lst_inj {x y : Str} (h : lst x = lst y) : x = y := by rw [← mkS_lst x, ← mkS_lst y, h]
theorem fix_length (l : List Nat) : (fix l).length ≤ 2 * l.length := by
  fun_induction fix l <;> simp_all <;> omega
theorem stuff_length (l : List Nat) : ∀ b, (stuff b l).length ≤ 2 * l.length := by
  induction l with
  | nil => intro b; simp [stuff]
  | cons c r ih =>
    intro b
    rw [stuff]
    split
    · have := ih false; simp; omega
    · have := ih (c == 10); simp; omega
end Mine
end

noncomputable section
set_option maxRecDepth 100000
namespace Mine
open PySem PyProof.Rows PySem.Calls
namespace Mf
theorem sub_tuple : isSubtype (.type "tuple") (.type "tuple") = pure true := by rw [isSubtype_type]; kernel_rfl
theorem sub_str : isSubtype (.type "str") (.type "str") = pure true := by rw [isSubtype_type]; kernel_rfl
theorem kind_nested : builtinKind "issubclass.nested" = none := by decide +kernel
theorem plain_nested : plainId "issubclass.nested" = true := by decide +kernel
theorem args_nested (a b c : Value) : argsOk "issubclass.nested" ⟨[a, b, c], []⟩ := by unfold argsOk; kernel_rfl
end Mf
section
variable {prog : Program} {w : World} {A : Around} {E : Value → Shared → Prop} {s : Shared}
theorem issub_str {D : Addr} {n : Nat} {Q : Value → Shared → Prop} (hD : s.heap.get? D = some { cls := .type "tuple", data := .seq #[.type "str", .type "bytes"] n })
    (h : Q (.bool true) s) : wpAny (model prog w) A (call (.builtin "issubclass") [.type "str", .ref D]) Q E s := by
  refine call_issubclass (S := fun A R s' => s' = s ∧ R (.ok (.ret (.bool true))) s') ?_ ⟨rfl, h⟩
  rintro prog w A R s' ⟨rfl, hR⟩
  refine issubclass_outer ?_
  unfold Builtin.«issubclass.nested»
  have hT : s'.TypeIs (.ref D) "tuple" := ⟨_, hD, rfl⟩
  refine wpAny_bind (wpAny_typeOf hT ?_)
  rw [if_neg (by decide)]
  refine wpAny_bind (m := Builtin.Builtins.unionMembers (.ref D)) ?_
  unfold Builtin.Builtins.unionMembers
  refine wpAny_bind (wpAny_typeOf hT ?_)
  rw [if_neg (by decide)]
  refine wpAny_pure ?_
  refine wpAny_bind (wpAny_isInstance hT Mf.sub_tuple ?_)
  rw [if_pos rfl]
  dsimp only
  rw [if_neg (by decide)]
  refine wpAny_bind (wpAny_seqItems hD rfl ?_)
  show wpAny _ _ (forIn (#[Value.type "str", Value.type "bytes"]) _ _ >>= _) _ _ _
  rw [List.forIn_toArray, List.forIn_cons]
  refine wpAny_bind (wpAny_bind (wpAny_bind ?_))
  refine call_function_meets Mf.kind_nested Mf.plain_nested F.entry_issubclass_nested (Mf.args_nested _ _ _) (S := fun A R s'' => s'' = s' ∧ R (.ok (.ret (.bool true))) s'') ?_ ⟨rfl, ?_⟩
  · rintro prog w A R s'' ⟨rfl, hR⟩
    have hm : (Value.type "type" == Value.type "type") = true := rfl
    have hself := Mf.sub_str
    repeat (any_goals (first | assumption | (rw [if_pos hm]) | (rw [hself]) | wp_step))
  · show wpAny _ _ (truthy (.bool true) >>= _) _ _ _
    refine wpAny_bind (wpAny_of_eq (a := true) rfl ?_)
    rw [if_pos rfl]
    exact wpAny_bind (wpAny_pure (wpAny_pure (wpAny_pure (wpAny_pure hR))))
end
end Mine
end

noncomputable section
set_option maxRecDepth 100000
namespace Mine
open PySem PyProof.Rows PySem.Calls
open AutoSeq1 (wpAny_loadPart')
namespace Mf
theorem mro_map : mroOf (.type "map") = pure [.type "map", .type "object"] := by rw [mroOf_type]; kernel_rfl
theorem lookup_map_new : typeLookup (.type "map") "__new__" = pure (some (.builtin "map.__new__")) := by rw [typeLookup_type, builtinLookup_eq_fast]; kernel_rfl
theorem slot_map_init : Slot "map" "__init__" "object.__init__" :=
  .of (owner := "object") (n := "__init__") (by rw [typeLookup_type, builtinLookup_eq_fast]; kernel_rfl) (by decide +kernel) (by decide +kernel) (by decide +kernel)
    (by first | exact .inl (by decide +kernel) | exact .inr (by decide +kernel)) (by rw [isSubtype_type]; kernel_rfl)
theorem called_map : TypeCalled "map" "map.__new__" "object.__init__" :=
  ⟨by decide +kernel, by decide +kernel, ⟨_, _, mro_map⟩, madeBy_type mro_map lookup_map_new (by decide +kernel), by decide +kernel, by rw [isSubtype_type]; kernel_rfl, slot_map_init⟩
theorem typeCall_map (a b : Value) : checkTypeCall "map" ⟨[a, b], []⟩ = pure () := by kernel_rfl
theorem newCall_map (a b : Value) : checkBuiltinCall "map.__new__" ⟨[.type "map", a, b], []⟩ = pure () := by kernel_rfl
theorem entry_map_new : entryFor table "map.__new__" = some Builtin.«map.__new__» := entryFor_of_tree (by kernel_rfl)
theorem slot_map_next : Slot "map" "__next__" "map.__next__" :=
  .of (owner := "map") (n := "__next__") (by rw [typeLookup_type, builtinLookup_eq_fast]; kernel_rfl) (by decide +kernel) (by decide +kernel) (by decide +kernel)
    (by first | exact .inl (by decide +kernel) | exact .inr (by decide +kernel)) (by rw [isSubtype_type]; kernel_rfl)
theorem entry_map_next : entryFor table "map.__next__" = some Builtin.«map.__next__» := entryFor_of_tree (by kernel_rfl)
theorem args_map_next (a : Value) : argsOk "map.__next__" ⟨[a], []⟩ := by unfold argsOk; kernel_rfl
theorem slot_map_iter : Slot "map" "__iter__" "map.__iter__" :=
  .of (owner := "map") (n := "__iter__") (by rw [typeLookup_type, builtinLookup_eq_fast]; kernel_rfl) (by decide +kernel) (by decide +kernel) (by decide +kernel)
    (by first | exact .inl (by decide +kernel) | exact .inr (by decide +kernel)) (by rw [isSubtype_type]; kernel_rfl)
theorem entry_map_iter : entryFor table "map.__iter__" = some Builtin.«dict_keyiterator.__iter__» :=
  entryFor_alias (id' := "dict_keyiterator.__iter__") (by kernel_rfl) (by first | rfl | decide +kernel | (unfold String.splitOn; simp +decide [String.splitOnAux])) (by decide +kernel) (by kernel_rfl)
theorem args_map_iter (a : Value) : argsOk "map.__iter__" ⟨[a], []⟩ := by unfold argsOk; kernel_rfl
theorem map_no_len : typeLookup (.type "map") "__len__" = pure none := by rw [typeLookup_type, builtinLookup_eq_fast]; kernel_rfl
theorem map_no_hint : typeLookup (.type "map") "__length_hint__" = pure none := by rw [typeLookup_type, builtinLookup_eq_fast]; kernel_rfl
theorem sub_map : isSubtype (.type "map") (.type "map") = pure true := by rw [isSubtype_type]; kernel_rfl
theorem args_init_3 (a b c : Value) : argsOk "object.__init__" ⟨[a, b, c], []⟩ := by unfold argsOk; kernel_rfl
end Mf
theorem meets_map_new (f : Value) (l : Addr) (items : Array Value) (n : Nat) :
    Meets (Builtin.«map.__new__» ⟨[.type "map", f, .ref l], []⟩) (fun _ R s => s.heap.get? l = some { cls := .type "list", data := .seq items n } ∧
      ∀ h', h'.objs.size = s.heap.objs.size + 3 → (∀ b o, s.heap.get? b = some o → h'.get? b = some o) → h'.get? s.heap.objs.size = some { cls := .type "list_iterator", data := .fields #[.ref l, .int 0 0] } →
        h'.get? (s.heap.objs.size + 1) = some { cls := .type "tuple", data := .seq #[.ref s.heap.objs.size] } → h'.get? (s.heap.objs.size + 2) = some { cls := .type "map", data := .fields #[.ref (s.heap.objs.size + 1), f] } →
        R (.ok (.ret (.ref (s.heap.objs.size + 2)))) { s with heap := h' }) :=
  .of_wp fun prog w A R s h => by
    obtain ⟨hp, g, d, tk, os⟩ := s; obtain ⟨hl, h⟩ := h
    have hsub := Mf.sub_map
    have hL : Heap.IsList (Shared.heap ⟨hp, g, d, tk, os⟩) l items := ⟨_, hl, rfl, n, rfl⟩
    wp_walk using wpAny_loadPart' hl, wpAny_pyIter_list hL
    refine ⟨_, rfl, ?_⟩
    have hz1 : (hp.push { cls := .type "list_iterator", data := .fields #[.ref l, .int 0 0] }).objs.size = hp.objs.size + 1 := Heap.size_push ..
    have hz2 : ((hp.push { cls := .type "list_iterator", data := .fields #[.ref l, .int 0 0] }).push { cls := .type "tuple", data := .seq #[.ref hp.objs.size] }).objs.size = hp.objs.size + 2 := by rw [Heap.size_push, hz1]
    show R (.ok (.ret (.ref ((hp.push { cls := .type "list_iterator", data := .fields #[.ref l, .int 0 0] }).push { cls := .type "tuple", data := .seq #[.ref hp.objs.size] }).objs.size)))
      ⟨((hp.push { cls := .type "list_iterator", data := .fields #[.ref l, .int 0 0] }).push { cls := .type "tuple", data := .seq #[.ref hp.objs.size] }).push { cls := .type "map", data := .fields #[.ref (hp.push { cls := .type "list_iterator", data := .fields #[.ref l, .int 0 0] }).objs.size, f] }, g, d, tk, os⟩
    rw [hz2, hz1]
    refine h _ (by rw [Heap.size_push, hz2]) (fun b o q => Heap.get?_push_of_some _ (Heap.get?_push_of_some _ (Heap.get?_push_of_some _ q))) (Heap.get?_push_of_some _ (Heap.get?_push_of_some _ (Heap.get?_push_size _ rfl))) ?_ ?_
    · have := Heap.get?_push_size (hp.push { cls := .type "list_iterator", data := .fields #[.ref l, .int 0 0] }) (o := { cls := .type "tuple", data := .seq #[.ref hp.objs.size] }) rfl
      rw [hz1] at this
      exact Heap.get?_push_of_some _ this
    · have := Heap.get?_push_size ((hp.push { cls := .type "list_iterator", data := .fields #[.ref l, .int 0 0] }).push { cls := .type "tuple", data := .seq #[.ref hp.objs.size] }) (o := { cls := .type "map", data := .fields #[.ref (hp.objs.size + 1), f] }) rfl
      rw [hz2] at this
      exact this
section
variable {prog : Program} {w : World} {A : Around} {E : Value → Shared → Prop} {s : Shared}
theorem call_map {f : Value} {l : Addr} {items : Array Value} {n : Nat} {Q : Value → Shared → Prop} (hl : s.heap.get? l = some { cls := .type "list", data := .seq items n })
    (h : ∀ h', h'.objs.size = s.heap.objs.size + 3 → (∀ b o, s.heap.get? b = some o → h'.get? b = some o) → h'.get? s.heap.objs.size = some { cls := .type "list_iterator", data := .fields #[.ref l, .int 0 0] } →
        h'.get? (s.heap.objs.size + 1) = some { cls := .type "tuple", data := .seq #[.ref s.heap.objs.size] } → h'.get? (s.heap.objs.size + 2) = some { cls := .type "map", data := .fields #[.ref (s.heap.objs.size + 1), f] } →
        Q (.ref (s.heap.objs.size + 2)) { s with heap := h' }) : wpAny (model prog w) A (call (.type "map") [f, .ref l]) Q E s :=
  callType_new Mf.called_map (by decide) (Mf.typeCall_map _ _) (Mf.newCall_map _ _) (fun obj => Mf.args_init_3 obj _ _) Mf.entry_map_new
    (meets_map_new f l items n) ⟨hl, fun h' a b c d e => ⟨⟨_, e, rfl⟩, h h' a b c d e⟩⟩
end
end Mine
end

noncomputable section
set_option maxRecDepth 100000
namespace Mine
open PySem PyProof.Rows PySem.Calls
section
variable {prog : Program} {w : World} {A : Around} {E : Value → Shared → Prop} {s : Shared}
theorem next_map {f : Value} {Mp T it l : Addr} {n i : Nat} {items : Array Value} {x : Value} {Q : Option Value → Shared → Prop}
    (hM : s.heap.get? Mp = some { cls := .type "map", data := .fields #[.ref T, f] }) (hT : s.heap.get? T = some { cls := .type "tuple", data := .seq #[.ref it] n })
    (hit : s.heap.IsListIter it l i) (hl : s.heap.IsList l items) (hx : items[i]? = some x) (hMi : Mp ≠ it)
    (hQ : ∀ h' E', h'.IsListIter it l (i + 1) → Heap.SameBut it s.heap h' → wpAny (model prog w) A.in1 (call f [x]) (fun v s' => Q (some v) s') E' { s with heap := h' }) :
    wpAny (model prog w) A (pyNext (.ref Mp)) Q E s := by
  have hty : s.TypeIs (.ref Mp) "map" := ⟨_, hM, rfl⟩
  unfold pyNext
  refine wpAny_bind (wpAny_attempt (wpAny_callSpecial?_slot (name := Str.ofString "__next__") hty Mf.slot_map_next
    (wpAny_call_entry Mf.slot_map_next hty Mf.entry_map_next ?_ (Mf.args_map_next _))))
  show wpAny _ _ (field (.ref Mp) 0 >>= _) _ _ _
  refine wpAny_bind (wpAny_field hM rfl (x := .ref T) rfl ?_)
  refine wpAny_bind (wpAny_seqItems hT rfl ?_)
  show wpAny _ _ (forIn (#[Value.ref it]) _ _ >>= _) _ _ _
  rw [List.forIn_toArray, List.forIn_cons]
  refine wpAny_bind (wpAny_bind (wpAny_bind (wpAny_holding (wpAny_nextOf_list_item hit hl hx fun h' hit' hs => ?_))))
  refine wpAny_pure ?_
  refine wpAny_pure ?_
  dsimp only
  have hM' : h'.get? Mp = some { cls := .type "map", data := .fields #[.ref T, f] } := (hs.2 Mp hMi).trans hM
  refine wpAny_bind (wpAny_field hM' rfl (x := f) rfl ?_)
  refine wpAny_bind (wpAny_holding ?_)
  show wpAny _ A.in1 (call f [x]) _ _ _
  refine wpAny_mono (hQ h' _ hit' hs) (fun v s' hq => ?_) fun _ _ e => e
  refine wpAny_bind (m := letGo [x] [v]) ?_
  unfold letGo
  refine wpAny_bind (wpAny_holding (wpAny_point (wpAny_pure (wpAny_pure ⟨v, rfl, wpAny_pure hq⟩))))
theorem next_map_end {f : Value} {Mp T it l : Addr} {n i : Nat} {items : Array Value} {Q : Option Value → Shared → Prop} (hh : A.handled = none)
    (hM : s.heap.get? Mp = some { cls := .type "map", data := .fields #[.ref T, f] }) (hT : s.heap.get? T = some { cls := .type "tuple", data := .seq #[.ref it] n })
    (hit : s.heap.IsListIter it l i) (hl : s.heap.IsList l items) (hx : items[i]? = none)
    (hQ : ∀ h', Heap.ExtBut it s.heap h' → Q none { s with heap := h' }) :
    wpAny (model prog w) A (pyNext (.ref Mp)) Q E s := by
  have hty : s.TypeIs (.ref Mp) "map" := ⟨_, hM, rfl⟩
  unfold pyNext
  refine wpAny_bind (wpAny_attempt (wpAny_callSpecial?_slot (name := Str.ofString "__next__") hty Mf.slot_map_next
    (wpAny_call_entry Mf.slot_map_next hty Mf.entry_map_next ?_ (Mf.args_map_next _))))
  show wpAny _ _ (field (.ref Mp) 0 >>= _) _ _ _
  refine wpAny_bind (wpAny_field hM rfl (x := .ref T) rfl ?_)
  refine wpAny_bind (wpAny_seqItems hT rfl ?_)
  show wpAny _ _ (forIn (#[Value.ref it]) _ _ >>= _) _ _ _
  rw [List.forIn_toArray, List.forIn_cons]
  refine wpAny_bind (wpAny_bind (wpAny_bind (wpAny_holding (wpAny_nextOf_list_end hh hit hl hx fun h' x he' hx' => ?_))))
  obtain ⟨o, ho, hc⟩ := hx'
  refine wpAny_bind (wpAny_isInstance (T := "StopIteration") (b := true) ⟨o, ho, hc⟩ isSubtype_stop ?_)
  exact wpAny_pure (hQ _ he')
end
end Mine
end

noncomputable section
set_option maxRecDepth 100000
namespace Mine
open PySem PyProof.Rows PySem.Calls
theorem news_cons {h₀ h : Heap} {L : Addr} {p : Addr × Obj} {rest : List (Addr × Obj)} (h1 : h.get? p.1 = some p.2) (h2 : p.1 ≠ L) (h3 : h₀.get? p.1 = none) (N : News h₀ L h rest) : News h₀ L h (p :: rest) := fun q hq => by
  rcases List.mem_cons.mp hq with rfl | hq
  · exact ⟨h1, h2, h3⟩
  · exact N q hq
theorem news_same {h₀ h h' : Heap} {L a : Addr} {rest : List (Addr × Obj)} (N : News h₀ L h rest) (hs : ∀ b o, b ≠ a → h.get? b = some o → h'.get? b = some o) (off : ∀ p ∈ rest, p.1 ≠ a) : News h₀ L h' rest :=
  fun p hp => ⟨hs _ _ (off p hp) (N p hp).1, (N p hp).2⟩
theorem fr_same {h₀ h h' : Heap} {L a : Addr} {m : Str → Option Value} (F : Fr h₀ L h m) (hs : ∀ b o, b ≠ a → h.get? b = some o → h'.get? b = some o) (hL : a ≠ L) (h0 : h₀.get? a = none) : Fr h₀ L h' m :=
  ⟨F.ns.at' fun o e => hs L o (Ne.symm hL) e, fun b o e => hs b o (fun q => by rw [q, h0] at e; cases e) (F.keep b o e), F.above⟩
theorem news_tail {h₀ h : Heap} {L : Addr} {p : Addr × Obj} {rest : List (Addr × Obj)} (N : News h₀ L h (p :: rest)) : News h₀ L h rest := fun q hq => N q (.tail _ hq)
theorem news_head {h₀ h : Heap} {L : Addr} {p : Addr × Obj} {rest : List (Addr × Obj)} (N : News h₀ L h (p :: rest)) : h.get? p.1 = some p.2 ∧ p.1 ≠ L ∧ h₀.get? p.1 = none := N p (.head _)
abbrev lobj (xs : Array Value) (c : Nat) : Obj := { cls := .type "list", data := .seq xs c }
abbrev tobj (xs : Array Value) : Obj := { cls := .type "tuple", data := .seq xs }
section
variable {prog : Program} {w : World} {A : Around} {h₀ : Heap} {L : Addr} {m : Str → Option Value} {news : List (Addr × Obj)}
theorem extend_map {f : Value} {Mp T it S D : Addr} {vs : List Value} {nD nT : Nat} {R : Result → Shared → Prop} (hh : A.handled = none) (hD : (D, lobj vs.toArray nD) ∈ news) (hsz : vs.length ≤ 1000)
    (hne : S ≠ Mp ∧ S ≠ T ∧ S ≠ it ∧ Mp ≠ it ∧ T ≠ it) (off : ∀ p ∈ news, p.1 ≠ S ∧ p.1 ≠ it)
    (hf : ∀ v ∈ vs, ∀ (s' : Shared) (nw : List (Addr × Obj)) (Q' E' : Value → Shared → Prop), Fr h₀ L s'.heap m → News h₀ L s'.heap nw → (∀ h' tk', Fr h₀ L h' m → News h₀ L h' nw → Q' v { s' with heap := h', toks := tk' }) → wpAny (model prog w) A.in1.in1 (call f [v]) Q' E' s') :
    ∀ (k i : Nat) (s : Shared) (c : Nat) (oI : Obj), vs.length - i = k → i ≤ vs.length → Fr h₀ L s.heap m →
      News h₀ L s.heap ((it, oI) :: (S, lobj (vs.take i).toArray c) :: (Mp, { cls := .type "map", data := .fields #[.ref T, f] }) :: (T, { cls := .type "tuple", data := .seq #[.ref it] nT }) :: news) →
      oI.cls = .type "list_iterator" → oI.data = .fields #[.ref D, .int i 0] →
      (∀ h' tk c', Fr h₀ L h' m → News h₀ L h' ((S, lobj vs.toArray c') :: news) → R (.ok (.ret (.ref S))) { s with heap := h', toks := tk }) →
      codeAny (model prog w) A (.builtin "list.extend.loop" ⟨[.ref S, .ref Mp, .ref S], []⟩) R s := by
  intro k
  induction k with
  | zero =>
    intro i s c oI hk hi F N hc hd hR
    have : i = vs.length := by omega
    subst this
    refine codeAny_builtin PySem.F.entry_extend_loop ?_
    rw [Around.under_plainId PySem.F.plain_extend_loop _]
    show wpAny _ A.in1 (pyNext (.ref Mp) >>= _) _ _ s
    have n1 := news_head N
    have n2 := news_head (news_tail N)
    have n3 := news_head (news_tail (news_tail N))
    have n4 := news_head (news_tail (news_tail (news_tail N)))
    have n5 := news_tail (news_tail (news_tail (news_tail N)))
    refine wpAny_bind (next_map_end hh n3.1 n4.1 ⟨_, n1.1, hc, hd⟩ ⟨_, (n5 _ hD).1, rfl, _, rfl⟩ (by simp) fun h' he => ?_)
    refine wpAny_pure (hR h' s.toks c (fr_same F he n1.2.1 n1.2.2) (news_cons ?_ n2.2.1 n2.2.2 (news_same n5 he fun p hp => (off p hp).2)))
    rw [List.take_length] at n2
    exact he _ _ hne.2.2.1 n2.1
  | succ k ih =>
    intro i s c oI hk hi F N hc hd hR
    have hlt : i < vs.length := by omega
    refine codeAny_builtin PySem.F.entry_extend_loop ?_
    rw [Around.under_plainId PySem.F.plain_extend_loop _]
    show wpAny _ A.in1 (pyNext (.ref Mp) >>= _) _ _ s
    have n1 := news_head N
    have n2 := news_head (news_tail N)
    have n3 := news_head (news_tail (news_tail N))
    have n4 := news_head (news_tail (news_tail (news_tail N)))
    have n5 := news_tail (news_tail (news_tail (news_tail N)))
    refine wpAny_bind (next_map (x := vs[i]) n3.1 n4.1 ⟨_, n1.1, hc, hd⟩ ⟨_, (n5 _ hD).1, rfl, _, rfl⟩ (by simp [hlt]) hne.2.2.2.1 fun h' E' hit' hs => ?_)
    obtain ⟨oI', hI', hIc, hId⟩ := hit'
    have F1 : Fr h₀ L h' m := fr_same F hs.extBut n1.2.1 n1.2.2
    have N1 : News h₀ L h' ((it, oI') :: (S, lobj (vs.take i).toArray c) :: (Mp, { cls := .type "map", data := .fields #[.ref T, f] }) :: (T, { cls := .type "tuple", data := .seq #[.ref it] nT }) :: news) := by
      refine news_cons hI' n1.2.1 n1.2.2 (news_same (news_tail N) hs.extBut fun p hp => ?_)
      rcases List.mem_cons.mp hp with rfl | hp
      · exact hne.2.2.1
      rcases List.mem_cons.mp hp with rfl | hp
      · exact hne.2.2.2.1
      rcases List.mem_cons.mp hp with rfl | hp
      · exact hne.2.2.2.2
      · exact (off p hp).2
    refine hf vs[i] (List.getElem_mem hlt) _ _ _ _ F1 N1 fun h₂ tk₂ F2 N2 => ?_
    have q1 := news_head N2
    have q2 := news_head (news_tail N2)
    have q3 := news_head (news_tail (news_tail N2))
    have q4 := news_head (news_tail (news_tail (news_tail N2)))
    have q5 := news_tail (news_tail (news_tail (news_tail N2)))
    show wpAny _ A.in1 (updateSeq S (·.push vs[i]) >>= _) _ _ _
    have hsl : sizeLine = 16777216 := by rw [sizeLine_eq]
    refine wpAny_bind (wpAny_updateSeq (s := { s with heap := h₂, toks := tk₂ }) q2.1 rfl ?_ (by simp; omega) (by simp; omega))
    obtain ⟨c', hc'⟩ : ∃ c', Obj.mapSeq (·.push vs[i]) (lobj (vs.take i).toArray c) = lobj (vs.take (i + 1)).toArray c' := ⟨_, by
      show lobj ((vs.take i).toArray.push vs[i]) _ = _
      rw [show (vs.take i).toArray.push vs[i] = (vs.take (i + 1)).toArray by rw [List.push_toArray, List.take_succ_eq_append_getElem hlt]]⟩
    have hS' := Heap.get?_update_self (Obj.mapSeq (·.push vs[i])) q2.1 (by rfl)
    rw [hc'] at hS'
    have hk' : ∀ b o, b ≠ S → h₂.get? b = some o → (h₂.update S (Obj.mapSeq (·.push vs[i]))).get? b = some o := fun b o hb e => (Heap.get?_update_other _ _ (Ne.symm hb)).trans e
    refine wpAny_pure ⟨plainId_quiet PySem.F.plain_extend_loop _, ih (i + 1) _ c' oI' (by omega) hlt (fr_same F2 hk' q2.2.1 q2.2.2) ?_ hIc ?_ fun h₃ tk₃ c₃ F3 N3 => hR h₃ tk₃ c₃ F3 N3⟩
    · refine news_cons (hk' _ _ (Ne.symm hne.2.2.1) q1.1) q1.2.1 q1.2.2 (news_cons hS' q2.2.1 q2.2.2 (news_cons (hk' _ _ (Ne.symm hne.1) q3.1) q3.2.1 q3.2.2 (news_cons (hk' _ _ (Ne.symm hne.2.1) q4.1) q4.2.1 q4.2.2 (news_same q5 hk' fun p hp => (off p hp).1))))
    · exact hId
set_option maxHeartbeats 2000000 in
theorem tuple_map {E : Value → Shared → Prop} {s : Shared} {f : Value} {Mp T it D : Addr} {vs : List Value} {nD nT : Nat} {oI : Obj} {Q : Value → Shared → Prop} (hh : A.handled = none) (hsz : vs.length ≤ 1000)
    (hD : (D, lobj vs.toArray nD) ∈ news) (off : ∀ p ∈ news, p.1 ≠ it) (hne : Mp ≠ it ∧ T ≠ it)
    (hf : ∀ v ∈ vs, ∀ (s' : Shared) (nw : List (Addr × Obj)) (Q' E' : Value → Shared → Prop), Fr h₀ L s'.heap m → News h₀ L s'.heap nw → (∀ h' tk', Fr h₀ L h' m → News h₀ L h' nw → Q' v { s' with heap := h', toks := tk' }) → wpAny (model prog w) A.in1.in1.in1.in1 (call f [v]) Q' E' s')
    (F : Fr h₀ L s.heap m) (N : News h₀ L s.heap ((it, oI) :: (Mp, { cls := .type "map", data := .fields #[.ref T, f] }) :: (T, { cls := .type "tuple", data := .seq #[.ref it] nT }) :: news))
    (hc : oI.cls = .type "list_iterator") (hd : oI.data = .fields #[.ref D, .int 0 0])
    (h : ∀ D' h' tk, Fr h₀ L h' m → News h₀ L h' ((D', tobj vs.toArray) :: news) → (∀ p ∈ news, p.1 < D') → Q (.ref D') { s with heap := h', toks := tk }) :
    wpAny (model prog w) A (call (.type "tuple") [.ref Mp]) Q E s := by
  have hsl : sizeLine = 16777216 := by rw [sizeLine_eq]
  have n1 := news_head N
  have n3 := news_head (news_tail N)
  have n4 := news_head (news_tail (news_tail N))
  have n5 := news_tail (news_tail (news_tail N))
  have hTy : ∀ h' : Heap, (∀ b o, s.heap.get? b = some o → h'.get? b = some o) → ∀ tk, ({ s with heap := h', toks := tk } : Shared).TypeIs (.ref Mp) "map" := fun h' hk tk => ⟨_, hk _ _ n3.1, rfl⟩
  refine callType_codes (Q₁ := fun obj s₁ => s₁.TypeIs obj "tuple" ∧ Q obj s₁) PySem.F.called_tuple (PySem.F.typeCall_tuple_1 _) PySem.F.entry_object_init ?_ fun obj s₁ h₁ => ?_
  rotate_left
  · exact ⟨h₁.1, PySem.F.args_object_init_2 obj _, object_init_meets PySem.F.called_tuple.init.lookup PySem.F.called_tuple.made (by decide) prog w A.in1 _ s₁ ⟨h₁.1, rfl, h₁.2⟩⟩
  refine codeAny_of_tree ?_
  show wpAny _ A.in1.in1 (do checkBuiltinCall "tuple.__new__" ⟨[.type "tuple", .ref Mp], []⟩; again (.builtin "tuple.__new__" ⟨[.type "tuple", .ref Mp], []⟩)) _ _ s
  refine wpAny_bind (wpAny_of_eq (PySem.F.newCall_tuple_1 _) (wpAny_pure ⟨plainId_quiet PySem.F.plain_tuple_new _, codeAny_builtin PySem.F.entry_tuple_new ?_⟩))
  rw [Around.under_plainId PySem.F.plain_tuple_new _]
  have hsub := sub_tuple_self
  have hinit := init_tuple_lookup
  have hmh := madeHere_tuple
  have hTI : s.TypeIs (.ref Mp) "map" := ⟨_, n3.1, rfl⟩
  have hcol : ∀ {Q' : List Value → Shared → Prop} {E' : Value → Shared → Prop}, (∀ h' tk S c', Fr h₀ L h' m → News h₀ L h' ((S, lobj vs.toArray c') :: news) → (∀ p ∈ news, p.1 < S) → Q' vs { s with heap := h', toks := tk }) →
      wpAny (model prog w) A.in1.in1 (collect (.ref Mp)) Q' E' s := by
    intro Q' E' hQ'
    unfold collect
    refine wpAny_bind (wpAny_runValue (codeAny_builtin PySem.F.entry_proto_collect ?_))
    rw [Around.under_plainId PySem.F.plain_proto_collect _]
    show wpAny _ _ (newList [] >>= fun l => again (.builtin "list.__iadd__" ⟨[l, .ref Mp], []⟩)) _ _ s
    refine wpAny_bind (wpAny_newObj_type ?_)
    refine wpAny_pure ⟨plainId_quiet PySem.F.plain_list_iadd _, codeAny_builtin PySem.F.entry_list_iadd ?_⟩
    rw [Around.under_plainId PySem.F.plain_list_iadd _]
    have hpush : ∀ b o, s.heap.get? b = some o → (s.heap.push { cls := .type "list", data := .seq ([] : List Value).toArray }).get? b = some o := fun b o e => Heap.get?_push_of_some _ e
    have hTy' := hTy _ hpush s.toks
    show wpAny _ _ (Builtin.List.listExtendWith (.ref s.heap.objs.size) (.ref Mp) (.ref s.heap.objs.size)) _ _ _
    unfold Builtin.List.listExtendWith
    refine wpAny_bind (wpAny_typeOf hTy' ?_)
    have hSM : s.heap.objs.size ≠ Mp := Nat.ne_of_gt (Heap.lt_size n3.1)
    have h1 : Builtin.List.listSameRef (.ref s.heap.objs.size) (.ref Mp) = false := by simp [Builtin.List.listSameRef, hSM]
    have h2 : (Value.type "map" == Value.type "list") = false := by decide
    have h3 : (Value.type "map" == Value.type "tuple") = false := by decide
    simp only [h1, h2, h3, Bool.or_false, Bool.false_eq_true, if_false]
    refine wpAny_bind (wpAny_pyIter_slot hTy' Mf.slot_map_iter (wpAny_call_entry Mf.slot_map_iter hTy' Mf.entry_map_iter ?_ (Mf.args_map_iter _)))
    refine wpAny_pure ⟨_, rfl, "map", _, hTy', Mf.slot_map_next.lookup, ?_⟩
    refine wpAny_bind (wpAny_holding ?_)
    unfold Builtin.List.listLengthHint
    refine wpAny_bind (wpAny_specialOf hTy' Mf.map_no_len ?_)
    show wpAny _ _ (specialOf (Value.ref Mp) (Str.ofString "__length_hint__") >>= _) _ _ _
    refine wpAny_bind (wpAny_specialOf hTy' Mf.map_no_hint ?_)
    refine wpAny_pure ?_
    show wpAny _ _ (if (true || _) = true then _ else _) _ _ _
    rw [if_pos (by rw [Bool.true_or])]
    refine wpAny_bind (wpAny_rule ?_)
    have hS₁ : (s.heap.push { cls := .type "list", data := .seq ([] : List Value).toArray }).get? s.heap.objs.size = some (lobj #[] 0) := Heap.get?_push_size _ rfl
    refine wpAny_bind ?_
    show wpAny _ _ (updateSeq s.heap.objs.size (·.push .none) >>= fun _ => updateSeq s.heap.objs.size (·.pop)) _ _ _
    refine wpAny_bind (wpAny_updateSeq hS₁ rfl ?_)
    have hS₂ := Heap.get?_update_self (Obj.mapSeq (·.push Value.none)) hS₁ rfl
    refine wpAny_updateSeq hS₂ rfl ?_
    have hS₃ := Heap.get?_update_self (Obj.mapSeq (·.pop)) hS₂ rfl
    obtain ⟨c₃, hc₃⟩ : ∃ c₃, Obj.mapSeq (·.pop) (Obj.mapSeq (·.push Value.none) (lobj #[] 0)) = lobj ((vs.take 0).toArray) c₃ := ⟨_, rfl⟩
    rw [hc₃] at hS₃
    have oth : ∀ b o, s.heap.get? b = some o →
        (((s.heap.push { cls := .type "list", data := .seq ([] : List Value).toArray }).update s.heap.objs.size (Obj.mapSeq (·.push Value.none))).update s.heap.objs.size (Obj.mapSeq (·.pop))).get? b = some o :=
      fun b o e => (Heap.get?_update_other _ _ (Nat.ne_of_gt (Heap.lt_size e))).trans ((Heap.get?_update_other _ _ (Nat.ne_of_gt (Heap.lt_size e))).trans (hpush b o e))
    have hS0 : h₀.get? s.heap.objs.size = none := by
      cases q : h₀.get? s.heap.objs.size with
      | none => rfl
      | some o => exact absurd (Heap.lt_size (F.keep _ _ q)) (Nat.lt_irrefl _)
    have hSL : s.heap.objs.size ≠ L := Nat.ne_of_gt F.ns.lt
    have lt_ : ∀ {b o}, s.heap.get? b = some o → s.heap.objs.size ≠ b := fun e => Nat.ne_of_gt (Heap.lt_size e)
    have F' := F.keeps oth
    have N' := N.keeps oth
    refine wpAny_pure ⟨plainId_quiet PySem.F.plain_extend_loop _, extend_map (A := A.in1.in1) (news := news) (S := s.heap.objs.size) (nD := nD) (nT := nT) (show A.in1.in1.handled = none from hh) hD hsz ⟨hSM, lt_ n4.1, lt_ n1.1, hne.1, hne.2⟩ (fun p hp => ⟨Ne.symm (lt_ (n5 p hp).1), off p hp⟩) hf vs.length 0 _ c₃ oI rfl (Nat.zero_le _) F' ?_ hc hd fun h' tk c' F'' N'' => ?_⟩
    · exact news_cons (news_head N').1 n1.2.1 n1.2.2 (news_cons hS₃ hSL hS0 (news_tail N'))
    · have e := (news_head N'').1
      show wpAny _ _ (load s.heap.objs.size >>= _) _ _ _
      refine wpAny_bind (wpAny_load e ?_)
      exact wpAny_pure (hQ' h' tk _ c' F'' N'' fun p hp => Heap.lt_size (n5 p hp).1)
  wp_walk using wpAny_typeOf hTI, hcol
  intro h' tk S c' F' N' hlt
  show wpAny _ _ (Builtin.Tuple.tupleExact vs.toArray >>= fun v => ret v) _ _ _
  unfold Builtin.Tuple.tupleExact
  refine wpAny_bind (wpAny_newObj_type ?_ (by show vs.toArray.size ≤ sizeLine; rw [List.size_toArray]; omega))
  refine wpAny_pure ?_
  refine ⟨⟨_, Heap.get?_push_size _ rfl, rfl⟩, ?_⟩
  have N2 := News.push F' N' (tobj vs.toArray)
  exact h _ _ tk (F'.push _) (news_cons (news_head N2).1 (news_head N2).2.1 (news_head N2).2.2 (news_tail (news_tail N2))) fun p hp => Nat.lt_trans (hlt p hp) (Heap.lt_size (news_head N').1)
end
end Mine
end

noncomputable section
set_option maxRecDepth 100000
namespace Mine
open PySem PyProof.Rows PySem.Calls
section
variable {prog : Program} {w : World} {A : Around} {h₀ : Heap} {L : Addr} {m : Str → Option Value} {news : List (Addr × Obj)} {E : Value → Shared → Prop} {s : Shared}
theorem fresh_of (F : Fr h₀ L s.heap m) {a : Addr} (ha : s.heap.objs.size ≤ a) : h₀.get? a = none := by
  cases q : h₀.get? a with
  | none => rfl
  | some o => exact absurd (Heap.lt_size (F.keep _ _ q)) (Nat.not_lt.mpr ha)
abbrev mobj (T : Addr) (f : Value) : Obj := { cls := .type "map", data := .fields #[.ref T, f] }
abbrev iobj (l : Addr) : Obj := { cls := .type "list_iterator", data := .fields #[.ref l, .int 0 0] }
theorem map_N {f : Value} {D : Addr} {vs : List Value} {nD : Nat} {Q : Value → Shared → Prop} (F : Fr h₀ L s.heap m) (N : News h₀ L s.heap news) (hD : (D, lobj vs.toArray nD) ∈ news)
    (h : ∀ Mp T it h', Fr h₀ L h' m → News h₀ L h' ((it, iobj D) :: (Mp, mobj T f) :: (T, { cls := .type "tuple", data := .seq #[.ref it] 0 }) :: news) → (Mp ≠ it ∧ T ≠ it) → (∀ p ∈ news, p.1 ≠ it) → Q (.ref Mp) { s with heap := h' }) :
    wpAny (model prog w) A (call (.type "map") [f, .ref D]) Q E s := by
  refine call_map (N _ hD).1 fun h' hz hk h1 h2 h3 => ?_
  have hL : ∀ k, s.heap.objs.size + k ≠ L := fun k => Nat.ne_of_gt (Nat.lt_of_lt_of_le F.ns.lt (Nat.le_add_right _ _))
  have e1 : (s.heap.objs.size + 2 : Nat) ≠ s.heap.objs.size := by omega
  have e2 : (s.heap.objs.size + 1 : Nat) ≠ s.heap.objs.size := by omega
  refine h (s.heap.objs.size + 2) (s.heap.objs.size + 1) s.heap.objs.size h' (F.keeps hk) ?_ ⟨e1, e2⟩ (fun p hp => Nat.ne_of_lt (Heap.lt_size (N p hp).1))
  exact news_cons h1 (hL 0) (fresh_of F (Nat.le_refl _)) (news_cons h3 (hL 2) (fresh_of F (Nat.le_add_right _ _)) (news_cons h2 (hL 1) (fresh_of F (Nat.le_add_right _ _)) (N.keeps hk)))
theorem strsAre_mem {vs : List Value} {xs : List Str} (h : StrsAre vs xs) : ∀ v ∈ vs, ∃ x t, v = .str x t ∧ x ∈ xs := by
  induction h with
  | nil => intro v hv; cases hv
  | cons x t _ ih =>
    intro v hv
    rcases List.mem_cons.mp hv with rfl | hv
    · exact ⟨x, t, rfl, List.mem_cons_self⟩
    · obtain ⟨y, u, e, hy⟩ := ih v hv
      exact ⟨y, u, e, List.mem_cons_of_mem _ hy⟩
theorem strsAre_length {vs : List Value} {xs : List Str} (h : StrsAre vs xs) : vs.length = xs.length := by
  induction h with
  | nil => rfl
  | cons _ _ _ ih => rw [List.length_cons, List.length_cons, ih]
end
end Mine
end

noncomputable section
set_option maxRecDepth 100000
namespace Mine
open PySem PySem.W PyProof.Rows PySem.Calls
theorem below_push {A : Around} {base g h : Heap} {outer : List Env} {L : Addr} {m : Str → Option Value} {env : Env} (K : Below A base outer g) (F : Fr g L h m) (hf : env.frame = some L) (hk : env.scope.kind = .function) : Below (A.deeper env) base (env :: outer) h := by
  have hnew : base.get? L = none := by
    cases hq : base.get? L with
    | none => rfl
    | some o => exact absurd (Nat.lt_of_lt_of_le (Heap.lt_size (K.stays L o hq)) F.above) (Nat.lt_irrefl _)
  refine ⟨Around.frames_deeper K.stack, fun b o e => F.keep b o (K.stays b o e), ?_⟩
  exact .cons (by rw [hk]; decide) hf F.ns hnew (K.frames.of_keeps fun b o e _ => ⟨o, F.keep b o e, rfl⟩)
theorem mem_frames {env : Env} {L b : Addr} {outer : List Env} (hf : env.frame = some L) (hm : b ∈ (env :: outer).filterMap (·.frame)) : b = L ∨ b ∈ outer.filterMap (·.frame) := by
  obtain ⟨env', he, hf'⟩ := List.mem_filterMap.mp hm
  rcases List.mem_cons.mp he with rfl | he
  · exact .inl (Option.some.inj (hf.symm.trans hf')).symm
  · exact .inr (List.mem_filterMap.mpr ⟨env', he, hf'⟩)
section
variable {M : Model} {A : Around} {E : Value → Shared → Prop} {s' : Shared} {base g h : Heap} {outer : List Env} {L e t : Addr} {m : Str → Option Value} {env : Env} {Q : Unit → Shared → Prop} {news : List (Addr × Obj)}
/-- an exception made in the frame leaves it -/
theorem leave_raiseX {cls : Value} {vs : List Value} (K : Below A base outer g) (hx : Heap.MadeExcOf h s'.heap e cls vs) (F : Fr g L h m) (N : News g L h news) (hf : env.frame = some L) (hk : env.scope.kind = .function)
    (hQ : ∀ h' t, RaisedS base g outer e cls t vs news h' → g.UpToSlots h' → Q () { s' with heap := h' }) :
    wpAny M (A.deeper env) (leaving env (.ref e)) Q E s' := by
  have K' := below_push K F hf hk
  have hin : ∀ env' ∈ (env :: outer), ∀ b, env'.frame = some b → b ∈ (env :: outer).filterMap (·.frame) := fun env' he b hb => List.mem_filterMap.mpr ⟨env', he, hb⟩
  have st : base.StaysIn (hideAll h ((env :: outer).filterMap (·.frame))) := fun b o q => hideAll_get _ (K'.stays b o q) fun hm => by
    rw [(K'.frames.mem hm).1] at q; cases q
  have sg : ∀ b o, g.get? b = some o → b ∉ outer.filterMap (·.frame) → (hideAll h ((env :: outer).filterMap (·.frame))).get? b = some o := fun b o q nm => hideAll_get _ (F.keep b o q) fun hm => by
    rcases mem_frames hf hm with z | z
    · rw [z, kts_self F] at q
      cases q
    · exact nm z
  have hl : ∀ q ∈ news, (hideAll h ((env :: outer).filterMap (·.frame))).get? q.1 = some q.2 ∧ g.get? q.1 = none ∧ base.get? q.1 = none := fun q hq => by
    refine ⟨hideAll_get _ (N q hq).1 fun hm => ?_, (N q hq).2.2, fresh_of_stays K.stays (N q hq).2.2⟩
    rcases mem_frames hf hm with z | z
    · exact (N q hq).2.1 z
    · obtain ⟨o, ho, _⟩ := (K.frames.mem z).2
      rw [(N q hq).2.2] at ho; cases ho
  exact wpAny_leaves_madeW K'.stack hf (fun b o q => of_hideAll _ q) (funFrames_hide K'.frames hin) hx fun h' t x1 x2 x3 x4 =>
    hQ h' t ⟨⟨_, st, sg, hl, x1, x3⟩, x2⟩ (((Heap.UpToSlots.of_keeps F.keep).trans (Heap.UpToSlots.of_keeps hx.keeps)).trans x4)
end
end Mine
end

noncomputable section
set_option maxRecDepth 100000
namespace Mine
open PySem PySem.W PyProof.Rows PySem.Calls
section
variable {prog : Program} {w : World} {A : Around} {E : Value → Shared → Prop} {s : Shared} {h₀ : Heap} {L : Addr} {m : Str → Option Value} {env : Env}
/-- the turns of a list comprehension, by an invariant over what is made -/
theorem comp_rest {elt : Expr} {x : Str} {scope : Scope} {cl : List (Str × Addr)} {S : List (Addr × Obj) → Prop} {P : Nat → Value → Prop} {Fin : List Value → List (Addr × Obj) → Prop} {n : Nat} {news : List (Addr × Obj)}
    (Y : Nat → List Value → List (Addr × Obj) → Prop) (h0 : Y 0 [] news) (fin : ∀ ys nw, Y n ys nw → Fin ys nw)
    (turn : ∀ i ys nw v I oI C oC D m₂ h tk (E' : Value → Shared → Prop), i < n → Y i ys nw → P i v → LCg.NsObj oC m₂ → m₂ x = some v → Fr h₀ L h m → News h₀ L h ((I, oI) :: (C, oC) :: (D, LCg.lst ys) :: nw) → LCg.Off3 I C D nw → ((@Ne Nat I C) ∧ (@Ne Nat I D) ∧ (@Ne Nat C D)) →
      wpAny (model prog w) A (eval elt (compEnvC scope cl C env)) (LCg.CompEnd h₀ L m { s with heap := h, toks := tk } I oI C oC D (LCg.lst ys) S (fun y nw' => Y (i + 1) (ys ++ [y]) nw')) E' { s with heap := h, toks := tk }) :
    LCg.CompRest prog w A h₀ L m env elt x scope cl s S P Fin n 0 [] news := by
  have key : ∀ (k i : Nat) (ys : List Value) (nw : List (Addr × Obj)), i + k = n → Y i ys nw → LCg.CompRest prog w A h₀ L m env elt x scope cl s S P Fin k i ys nw := by
    intro k
    induction k with
    | zero =>
      intro i ys nw hi hy
      have : i = n := by omega
      subst this
      exact LCg.CompRest.zero (fin ys nw hy)
    | succ k ih =>
      intro i ys nw hi hy
      refine LCg.CompRest.succ ?_
      intro v I oI C oC D m₂ h tk E' hv hC hx F N off ne
      refine wpAny_mono (turn i ys nw v I oI C oC D m₂ h tk E' (by omega) hy hv hC hx F N off ne) (fun y s₂ hq => ?_) fun _ _ e => e
      obtain ⟨h', tk', nw', e, F', N', off', hS, hY⟩ := hq
      exact ⟨h', tk', nw', e, F', N', off', hS, ih (i + 1) _ _ (by omega) hY⟩
  exact key n 0 [] news (by omega) h0
/-- with one test -/
theorem comp_restT {ct elt : Expr} {x : Str} {scope : Scope} {cl : List (Str × Addr)} {S : List (Addr × Obj) → Prop} {P : Nat → Value → Prop} {Fin : List Value → List (Addr × Obj) → Prop} {n : Nat} {news : List (Addr × Obj)}
    (Y : Nat → List Value → List (Addr × Obj) → Prop) (h0 : Y 0 [] news) (fin : ∀ ys nw, Y n ys nw → Fin ys nw)
    (turn : ∀ i ys nw v I oI C oC D m₂ h tk (E' : Value → Shared → Prop), i < n → Y i ys nw → P i v → LCg.NsObj oC m₂ → m₂ x = some v → Fr h₀ L h m → News h₀ L h ((I, oI) :: (C, oC) :: (D, LCg.lst ys) :: nw) → LCg.Off3 I C D nw → ((@Ne Nat I C) ∧ (@Ne Nat I D) ∧ (@Ne Nat C D)) →
      wpAny (model prog w) A (isTrue ct (compEnvC scope cl C env) (eval ct (compEnvC scope cl C env))) (fun ok s' => if ok = true then
        wpAny (model prog w) A (eval elt (compEnvC scope cl C env)) (LCg.CompEnd h₀ L m { s with heap := h, toks := tk } I oI C oC D (LCg.lst ys) S (fun y nw' => Y (i + 1) (ys ++ [y]) nw')) E' s'
        else LCg.CompEnd h₀ L m { s with heap := h, toks := tk } I oI C oC D (LCg.lst ys) S (fun _ nw' => Y (i + 1) ys nw') Value.none s') E' { s with heap := h, toks := tk }) :
    LCt.CompRestT prog w A h₀ L m env ct elt x scope cl s S P Fin n 0 [] news := by
  have key : ∀ (k i : Nat) (ys : List Value) (nw : List (Addr × Obj)), i + k = n → Y i ys nw → LCt.CompRestT prog w A h₀ L m env ct elt x scope cl s S P Fin k i ys nw := by
    intro k
    induction k with
    | zero =>
      intro i ys nw hi hy
      have : i = n := by omega
      subst this
      exact LCt.CompRestT.zero (fin ys nw hy)
    | succ k ih =>
      intro i ys nw hi hy
      refine LCt.CompRestT.succ ?_
      intro v I oI C oC D m₂ h tk E' hv hC hx F N off ne
      refine wpAny_mono (turn i ys nw v I oI C oC D m₂ h tk E' (by omega) hy hv hC hx F N off ne) (fun ok s₂ hq => ?_) fun _ _ e => e
      by_cases hok : ok = true
      · rw [if_pos hok] at hq ⊢
        refine wpAny_mono hq (fun y s₃ hq => ?_) fun _ _ e => e
        obtain ⟨h', tk', nw', e, F', N', off', hS, hY⟩ := hq
        exact ⟨h', tk', nw', e, F', N', off', hS, ih (i + 1) _ _ (by omega) hY⟩
      · rw [if_neg hok] at hq ⊢
        obtain ⟨h', tk', nw', e, F', N', off', hS, hY⟩ := hq
        exact ⟨h', tk', nw', e, F', N', off', hS, ih (i + 1) _ _ (by omega) hY⟩
  exact key n 0 [] news (by omega) h0
/-- the source: a tuple of the ledger -/
def SrcT (prog : Program) (w : World) (A : Around) (h₀ : Heap) (L : Addr) (m : Str → Option Value) (env : Env) (elt : Expr) (x : Str) (scope : Scope) (cl : List (Str × Addr)) (Fin : Shared → List Value → List (Addr × Obj) → Prop) (xv : Value) (s₁ : Shared) : Prop :=
  ∃ ax vs news, xv = .ref ax ∧ A.handled = none ∧ Fr h₀ L s₁.heap m ∧ News h₀ L s₁.heap news ∧ (ax, tobj vs) ∈ news ∧ vs.size ≤ sizeLine ∧
    ∀ s₂ : Shared, (∃ h, s₂ = { s₁ with heap := h }) → LCg.CompRest prog w A h₀ L m env elt x scope cl s₂ (fun nw => (ax, tobj vs) ∈ nw) (fun i v => vs[i]? = some v) (Fin s₂) vs.size 0 [] news
theorem Assign_ListComp_tup {elt iter : Expr} {x y : Str} {px py : Pos} {scope : Scope} {cl : List (Str × Addr)} {pos spos : Pos} {Q : Flow → Shared → Prop} (F₀ : Fr h₀ L s.heap m) (hLe : env.locals = L)
    (hsw : swapsWith (.ListComp elt [⟨.Name x px, iter, [], 0⟩] scope pos) (some (.Name y py)) spos.line env = pure true)
    (hclos : closureFor scope env = pure cl) (hcell : ∀ z ∈ scope.names, z.2 ≠ .cell) (hkind : scope.kind = .function)
    (hnames : ∀ z ∈ scope.names, z.2 = .local → scope.names.lookup z.1 = some .local) (hx : scope.names.lookup x = some .local)
    (hy : env.kindOf y = some .local) (hp : (env.scope.kind == .class || (env.scope.kind == .module && env.locals != env.globals)) = false)
    (h : wpAny (model prog w) A (eval iter env) (SrcT prog w A h₀ L m env elt x scope cl (fun s₂ => LCg.FinA h₀ L m s₂ y Q)) E s)
    (hs : ∀ x, foldedSetIterable iter env x = pure x := by intro _; rfl) :
    wpAny (model prog w) A (exec (.Assign [.Name y py] (.ListComp elt [⟨.Name x px, iter, [], 0⟩] scope pos) spos) env) Q E s := by
  subst hLe
  rw [exec_Assign_Name_used _ _ _ _ hsw]
  refine wpAny_bind (wpAny_standAt (wpAny_bind ?_))
  show wpAny _ A (do let _ ← comprehension (.ListComp elt [⟨.Name x px, iter, [], 0⟩] scope pos) scope env _ (newList []) false (eval iter env) (some (assign (.Name y py) env))) _ _ s
  refine wpAny_bind (wpAny_mono (wpAny_comprehension_free (use := some (assign (.Name y py) env)) (Q := fun _ s' => Q .next s') rfl hs hclos hkind hnames
    (wpAny_mono h (fun xv s₁ h₁ => ?_) fun _ _ e => e)) (fun _ s' hq => wpAny_pure (wpAny_pure hq)) fun _ _ e => e)
  obtain ⟨ax, vs, news, rfl, hh, F, N, hm, hsz, R⟩ := h₁
  have hl : s₁.heap.IsTuple ax vs := ⟨_, (N _ hm).1, rfl, _, rfl⟩
  have hlt : ax < s₁.heap.objs.size := Heap.lt_size (N _ hm).1
  refine wpAny_pyIter_tuple hl ?_
  have up : ∀ b o, s₁.heap.get? b = some o → (s₁.heap.push { cls := .type "tuple_iterator", data := .fields #[.ref ax, .int 0 0] }).get? b = some o := fun b o e => Heap.get?_push_of_some _ e
  refine LCg.block_U (Walks.tuple hh s₁.heap.objs.size ax (Nat.ne_of_lt hlt) vs) hsz (fun i h st => by obtain ⟨o, e, _⟩ := st.1; exact ⟨o, e⟩)
    (fun i h h' o nw st e e' k Nw S => ⟨by obtain ⟨o', q, r⟩ := st.1; rw [e] at q; cases q; exact ⟨o, e', r⟩, ⟨_, (Nw _ S).1, rfl, _, rfl⟩⟩) hcell hkind hx
    ⟨⟨_, Heap.get?_push_size _ rfl, rfl, rfl⟩, ⟨_, up _ _ (N _ hm).1, rfl, _, rfl⟩⟩ (fun b hb => ?_)
    (F.keeps up) (N.grown up) (Nat.ne_of_lt F.ns.lt) (next_is_new F) (fun p hp => Nat.ne_of_lt (Heap.lt_size (N p hp).1)) hm (R _ ⟨_, rfl⟩) ?_
  · show b < (s₁.heap.push _).objs.size
    rw [Heap.size_push]
    rcases List.mem_cons.mp hb with rfl | hb
    · exact Nat.lt_succ_self _
    · rw [List.mem_singleton.mp hb]; exact Nat.lt_succ_of_lt hlt
  · intro D C h' tk m' ys news' F' N' o1 hn hC₀ hD₀ hCL hDL hCD offC fin
    show wpAny _ A (assign (.Name y py) env (.ref D)) _ _ _
    refine wpAny_assign_Name (wpAny_storeName_local hy F'.ns (fun h₂ hn₂ hs₂ => ?_) hp)
    have hL₀ : h₀.get? env.locals = none := Heap.get?_none_of_le F'.above
    have F₂ : Fr h₀ env.locals h₂ (fun z => if z = y then some (.ref D) else m z) := ⟨hn₂, fun b o e => hs₂.extBut b o (fun q => by rw [q, hL₀] at e; cases e) (F'.keep b o e), F'.above⟩
    refine ⟨m', hn.sameBut hs₂ hCL, fun h'' hs'' => fin D h'' _ (F₂.change hs'' hCL hC₀) (fun p hp => ?_) o1⟩
    have z : h₂.get? p.1 = some p.2 := hs₂.extBut _ _ (N' p hp).2.1 (N' p hp).1
    refine ⟨hs''.extBut _ _ ?_ z, (N' p hp).2⟩
    rcases List.mem_cons.mp hp with rfl | hp
    · exact Ne.symm hCD
    · exact offC p hp
theorem store_cell {cn : Str} {cs : Scope} {a : Addr} {ccd : Value} {cl : List (Str × Addr)} {x : Str} {v : Value} {c : Addr} {o : Obj} {v₀ : Option Value} {pre rest : List (Addr × Obj)} {M : Model} {Q : Unit → Shared → Prop}
    (F : Fr h₀ L s.heap m) (N : News h₀ L s.heap (pre ++ (c, o) :: rest)) (hc : cl.lookup x = some c) (hd : o.data = .cell v₀) (h1 : ∀ p ∈ pre, p.1 ≠ c) (h2 : ∀ p ∈ rest, p.1 ≠ c)
    (h : ∀ h' o', Fr h₀ L h' m → News h₀ L h' (pre ++ (c, o') :: rest) → o'.data = .cell (some v) → Q () { s with heap := h' })
    (hk : cs.kind = .function) (hx : (envX cn cs L a ccd cl).kindOf x = some .cell) : wpAny M A (storeName (envX cn cs L a ccd cl) x v) Q E s := by
  have hmem := N (c, o) (List.mem_append_right _ (.head _))
  refine wpAny_storeName_cell hk hx hc ⟨o, hmem.1, hd⟩ fun h' hv hs => ?_
  obtain ⟨o', ho', hd'⟩ := hv
  refine h h' o' (fr_same F hs.extBut hmem.2.1 hmem.2.2) (fun p hp => ?_) hd'
  rcases List.mem_append.mp hp with q | q
  · exact ⟨hs.extBut _ _ (h1 p q) (N p (List.mem_append_left _ q)).1, (N p (List.mem_append_left _ q)).2⟩
  · rcases List.mem_cons.mp q with rfl | q
    · exact ⟨ho', hmem.2⟩
    · exact ⟨hs.extBut _ _ (h2 p q) (N p (List.mem_append_right _ (.tail _ q))).1, (N p (List.mem_append_right _ (.tail _ q))).2⟩
end
end Mine
end

noncomputable section
set_option maxRecDepth 100000
namespace Mine
open PySem PySem.W PyProof.Rows PySem.Calls
/-- the ledger bears a list of texts at v -/
def SL (nw : List (Addr × Obj)) (v : Value) (xs : List Str) : Prop := ∃ a vs n, v = .ref a ∧ (a, lobj vs.toArray n) ∈ nw ∧ StrsAre vs xs
inductive LL (nw : List (Addr × Obj)) : List Value → List (List Str) → Prop
  | nil : LL nw [] []
  | cons {v : Value} {xs : List Str} {vs : List Value} {xss : List (List Str)} : SL nw v xs → LL nw vs xss → LL nw (v :: vs) (xs :: xss)
abbrev Sub (a b : List (Addr × Obj)) : Prop := ∀ p ∈ a, p ∈ b
theorem SL.mono {nw nw' : List (Addr × Obj)} {v : Value} {xs : List Str} (h : SL nw v xs) (s : Sub nw nw') : SL nw' v xs := by
  obtain ⟨a, vs, n, e, m, r⟩ := h; exact ⟨a, vs, n, e, s _ m, r⟩
theorem LL.mono {nw nw' : List (Addr × Obj)} {vs : List Value} {xss : List (List Str)} (h : LL nw vs xss) (s : Sub nw nw') : LL nw' vs xss := by
  induction h with
  | nil => exact .nil
  | cons a _ ih => exact .cons (a.mono s) ih
theorem LL.snoc {nw : List (Addr × Obj)} {vs : List Value} {xss : List (List Str)} {v : Value} {xs : List Str} (h : LL nw vs xss) (a : SL nw v xs) : LL nw (vs ++ [v]) (xss ++ [xs]) := by
  induction h with
  | nil => exact .cons a .nil
  | cons b _ ih => exact .cons b ih
theorem LL.length {nw : List (Addr × Obj)} {vs : List Value} {xss : List (List Str)} (h : LL nw vs xss) : vs.length = xss.length := by
  induction h with
  | nil => rfl
  | cons _ _ ih => simp [ih]
theorem LL.at {nw : List (Addr × Obj)} {vs : List Value} {xss : List (List Str)} (h : LL nw vs xss) : ∀ {i : Nat} {v : Value}, vs[i]? = some v → ∃ xs, xss[i]? = some xs ∧ SL nw v xs := by
  induction h with
  | nil => intro i v e; simp at e
  | cons a _ ih =>
    intro i v e
    cases i with
    | zero => simp at e; subst e; exact ⟨_, rfl, a⟩
    | succ i => simp at e; obtain ⟨xs, h1, h2⟩ := ih e; exact ⟨xs, by simpa using h1, h2⟩
theorem strsAre_at {vs : List Value} {xs : List Str} (h : StrsAre vs xs) : ∀ {i : Nat} {v : Value}, vs[i]? = some v → ∃ x t, v = .str x t ∧ xs[i]? = some x := by
  induction h with
  | nil => intro i v e; simp at e
  | cons a t _ ih =>
    intro i v e
    cases i with
    | zero => simp at e; subst e; exact ⟨_, _, rfl, rfl⟩
    | succ i => simp at e; obtain ⟨x, t, h1, h2⟩ := ih e; exact ⟨x, t, h1, by simpa using h2⟩
theorem strsAre_of (l : List (Str × Tok)) : StrsAre (strValues l) (l.map (·.1)) := strsAre_of_values l
theorem strsAre_snoc {vs : List Value} {xs : List Str} {x : Str} {t : Tok} (h : StrsAre vs xs) : StrsAre (vs ++ [.str x t]) (xs ++ [x]) := by
  induction h with
  | nil => exact .cons _ _ .nil
  | cons _ _ _ ih => exact .cons _ _ ih
theorem take_succ_at {α : Type} {l : List α} {i : Nat} {x : α} (h : l[i]? = some x) : l.take (i + 1) = l.take i ++ [x] := by
  rw [List.take_add_one, h]; rfl
section
variable {h₀ h h' : Heap} {L I C D a : Addr} {m : Str → Option Value} {s₁ : Shared} {o oI oC oD : Obj} {S : List (Addr × Obj) → Prop} {rest : Value → List (Addr × Obj) → Prop} {y : Value} {tk : Nat} {e : Addr × Obj} {nw : List (Addr × Obj)}
/-- an element that made one object -/
theorem compEnd_made (F : Fr h₀ L h' m) (N₀ : News h₀ L h ((I, oI) :: (C, oC) :: (D, oD) :: e :: nw)) (ha : h.objs.size ≤ a) (N : News h₀ L h' ((a, o) :: (I, oI) :: (C, oC) :: (D, oD) :: e :: nw)) (off : LCg.Off3 I C D nw) (hS : S ((a, o) :: nw)) (r : rest y ((a, o) :: nw)) :
    LCg.CompEnd h₀ L m s₁ I oI C oC D oD S rest y { s₁ with heap := h', toks := tk } := by
  refine ⟨h', tk, (a, o) :: nw, rfl, F, fun p hp => ?_, ⟨⟨?_, ?_, ?_⟩, off⟩, hS, r⟩
  · rcases List.mem_cons.mp hp with rfl | hp
    · exact N _ (.tail _ (.head _))
    rcases List.mem_cons.mp hp with rfl | hp
    · exact N _ (.tail _ (.tail _ (.head _)))
    rcases List.mem_cons.mp hp with rfl | hp
    · exact N _ (.tail _ (.tail _ (.tail _ (.head _))))
    rcases List.mem_cons.mp hp with rfl | hp
    · exact N _ (.head _)
    · exact N _ (.tail _ (.tail _ (.tail _ (.tail _ (.tail _ hp)))))
  · exact Nat.ne_of_gt (Nat.lt_of_lt_of_le (Heap.lt_size (N₀ _ (.head _)).1) ha)
  · exact Nat.ne_of_gt (Nat.lt_of_lt_of_le (Heap.lt_size (N₀ _ (.tail _ (.head _))).1) ha)
  · exact Nat.ne_of_gt (Nat.lt_of_lt_of_le (Heap.lt_size (N₀ _ (.tail _ (.tail _ (.head _)))).1) ha)
/-- the turn's ledger, with an object of the rest in front -/
theorem turn_news (N : News h₀ L h ((I, oI) :: (C, oC) :: (D, oD) :: nw)) (he : e ∈ nw) : News h₀ L h ((I, oI) :: (C, oC) :: (D, oD) :: e :: nw) := fun p hp => by
  rcases List.mem_cons.mp hp with rfl | hp
  · exact N _ (.head _)
  rcases List.mem_cons.mp hp with rfl | hp
  · exact N _ (.tail _ (.head _))
  rcases List.mem_cons.mp hp with rfl | hp
  · exact N _ (.tail _ (.tail _ (.head _)))
  rcases List.mem_cons.mp hp with rfl | hp
  · exact N _ (.tail _ (.tail _ (.tail _ he)))
  · exact N _ (.tail _ (.tail _ (.tail _ hp)))
end
end Mine
end

noncomputable section
set_option maxRecDepth 100000
namespace Mine
open PySem PySem.W PyProof.Rows PySem.Calls
open PySem.MeetsSeq3 PySem.AutoSeq1
def ltS (a b : Str) : Bool := decide (a.cps.toList < b.cps.toList)
noncomputable def ltL : List Str → List Str → Bool
  | [], [] => false
  | [], _ :: _ => true
  | _ :: _, [] => false
  | a :: r, b :: t => if a = b then ltL r t else ltS a b
theorem strsAre_get {vs : List Value} {xs : List Str} (h : StrsAre vs xs) : ∀ i, i < vs.length → ∃ x t, vs[i]? = some (.str x t) ∧ xs[i]? = some x ∧ xs.drop i = x :: xs.drop (i + 1) := by
  induction h with
  | nil => intro i e; simp at e
  | cons a t _ ih =>
    intro i e
    cases i with
    | zero => exact ⟨a, t, rfl, rfl, rfl⟩
    | succ i =>
      obtain ⟨x, t, h1, h2, h3⟩ := ih i (by simpa using e)
      exact ⟨x, t, by simpa using h1, by simpa using h2, by simpa using h3⟩
theorem strsAre_none {vs : List Value} {xs : List Str} (h : StrsAre vs xs) {i : Nat} (hi : vs.length ≤ i) : vs[i]? = none ∧ xs.drop i = [] := by
  have := strsAre_length h
  exact ⟨List.getElem?_eq_none hi, List.drop_eq_nil_of_le (by omega)⟩
theorem lt_loop (l b : Addr) (vs us : List Value) (xs ys : List Str) (n n2 : Nat) (hx : StrsAre vs xs) (hy : StrsAre us ys) (k : Nat) :
    ∀ i : Nat, i ≤ vs.length → i ≤ us.length → vs.length - i = k → Meets (Builtin.«list.__eq__.loop» ⟨[.ref l, .ref b, rawInt i, rawInt 0], []⟩)
      (fun A R s => s.heap.get? l = some { cls := .type "list", dict := none, data := .seq vs.toArray n, slots := #[] } ∧ s.heap.get? b = some { cls := .type "list", dict := none, data := .seq us.toArray n2, slots := #[] } ∧
        R (.ok (.ret (.bool (ltL (xs.drop i) (ys.drop i))))) s) := by
  induction k with
  | zero =>
    intro i hv hu hk prog w A R s h
    obtain ⟨hp, g, d, tk, os⟩ := s; obtain ⟨hl, hb, h⟩ := h
    wp_walk using wpAny_loadPart' hl, wpAny_loadPart' hb
    obtain ⟨q1, q2⟩ := strsAre_none hx (i := i) (by omega)
    have hi1 : vs.toArray[((i : Nat) : Int).toNat]? = none := by simpa using q1
    rw [hi1]
    rw [q2] at h
    wp_walk using wpAny_loadPart' hl, wpAny_loadPart' hb
    show R (.ok (.ret (.bool (decide (vs.toArray.size < us.toArray.size))))) _
    have e : ltL [] (ys.drop i) = decide (vs.toArray.size < us.toArray.size) := by
      have l1 := strsAre_length hx
      have l2 := strsAre_length hy
      have l3 : xs.length ≤ i := List.drop_eq_nil_iff.mp q2
      have l4 : i = vs.length := by omega
      rcases Nat.lt_or_ge i us.length with hlt | hge
      · obtain ⟨y, u, p1, p2, p3⟩ := strsAre_get hy i hlt
        rw [p3]
        simp [ltL]; omega
      · obtain ⟨p1, p2⟩ := strsAre_none hy (i := i) hge
        rw [p2]
        simp [ltL]; omega
    rw [← e]; exact h
  | succ k ih =>
    intro i hv hu hk prog w A R s h
    obtain ⟨hp, g, d, tk, os⟩ := s; obtain ⟨hl, hb, h⟩ := h
    wp_walk using wpAny_loadPart' hl, wpAny_loadPart' hb
    obtain ⟨x, t, q1, q2, q3⟩ := strsAre_get hx i (by omega)
    have hi1 : vs.toArray[((i : Nat) : Int).toNat]? = some (.str x t) := by simpa using q1
    have hc : ((i : Int) + 1) = ((i + 1 : Nat) : Int) := by push_cast; rfl
    rw [hi1]
    rw [q3] at h
    rcases Nat.lt_or_ge i us.length with hlt | hge
    · obtain ⟨y, u, p1, p2, p3⟩ := strsAre_get hy i hlt
      have hi2 : us.toArray[((i : Nat) : Int).toNat]? = some (.str y u) := by simpa using p1
      rw [hi2]
      rw [p3] at h
      refine wpAny_bind (wpAny_eqBool_str ?_)
      by_cases e : x = y
      · subst e
        rw [decide_eq_true rfl]
        rw [ltL, if_pos rfl] at h
        wp_walk
        rw [hc]
        exact ⟨plainId_quiet plain_eq_loop _, codeAny_builtin entry_eq_loop (by
          rw [Around.under_plainId plain_eq_loop _]
          exact ih (i + 1) (by omega) (by omega) (by omega) prog w A R _ ⟨hl, hb, h⟩)⟩
      · rw [decide_eq_false e]
        rw [ltL, if_neg e] at h
        wp_walk using wpAny_loadPart' hl, wpAny_loadPart' hb
        rw [hi1, hi2]
        show wpAny _ _ (richCompare .Lt (.str x t) (.str y u) >>= _) _ _ _
        refine wpAny_bind (show wpAny _ _ (compareOp .Lt (.str x t) (.str y u)) _ _ _ from PyProof.Rows.lt_str ?_)
        exact wpAny_pure h
    · obtain ⟨p1, p2⟩ := strsAre_none hy (i := i) hge
      have hi2 : us.toArray[((i : Nat) : Int).toNat]? = none := by simpa using p1
      rw [hi2]
      rw [p2] at h
      wp_walk using wpAny_loadPart' hl, wpAny_loadPart' hb
      show R (.ok (.ret (.bool (decide (vs.toArray.size < us.toArray.size))))) _
      rw [show decide (vs.toArray.size < us.toArray.size) = false from by simp; omega]
      exact h
theorem lt_body (l b : Addr) (vs us : List Value) (xs ys : List Str) (n n2 : Nat) (hx : StrsAre vs xs) (hy : StrsAre us ys) :
    Meets (Builtin.«list.__lt__» ⟨[.ref l, .ref b], []⟩)
      (fun A R s => s.heap.get? l = some { cls := .type "list", dict := none, data := .seq vs.toArray n, slots := #[] } ∧ s.heap.get? b = some { cls := .type "list", dict := none, data := .seq us.toArray n2, slots := #[] } ∧
        R (.ok (.ret (.bool (ltL xs ys)))) s) := by
  intro prog w A R s h
  obtain ⟨hp, g, d, tk, os⟩ := s; obtain ⟨hl, hb, h⟩ := h
  have f3 := AutoSeq1.sub_list_list
  wp_walk using wpAny_loadPart' hl, wpAny_loadPart' hb
  exact ⟨plainId_quiet plain_eq_loop _, codeAny_builtin entry_eq_loop (by
    rw [Around.under_plainId plain_eq_loop _]
    exact lt_loop l b vs us xs ys n n2 hx hy _ 0 (Nat.zero_le _) (Nat.zero_le _) rfl prog w A R _ ⟨hl, hb, h⟩)⟩
section
variable {prog : Program} {w : World} {A : Around} {E : Value → Shared → Prop} {s : Shared}
theorem lt_lists {l b : Addr} {vs us : List Value} {xs ys : List Str} {n n2 : Nat} {Q : Value → Shared → Prop} (hx : StrsAre vs xs) (hy : StrsAre us ys)
    (hl : s.heap.get? l = some (lobj vs.toArray n)) (hb : s.heap.get? b = some (lobj us.toArray n2)) (hu : A.units < cLine) (h : Q (.bool (ltL xs ys)) s) : wpAny (model prog w) A (richCompare .Lt (.ref l) (.ref b)) Q E s :=
  richCompare_meets_room (op := .Lt) ⟨_, hl, rfl⟩ ⟨_, hb, rfl⟩ F.slot_list_lt F.entry_list_lt (F.args_list_lt_2 _ _) (lt_body l b vs us xs ys n n2 hx hy)
    ⟨hl, hb, show Value.bool (ltL xs ys) ≠ Value.notImplemented ∧ Q (.bool (ltL xs ys)) s from ⟨(fun x => nomatch x), h⟩⟩ hu
end
end Mine
end

noncomputable section
set_option maxRecDepth 100000
namespace Mine
open PySem PySem.W PyProof.Rows PySem.Calls
open PySem.MeetsSeq3 PySem.AutoSeq1
theorem gt_loop (l b : Addr) (vs us : List Value) (xs ys : List Str) (n n2 : Nat) (hx : StrsAre vs xs) (hy : StrsAre us ys) (k : Nat) :
    ∀ i : Nat, i ≤ vs.length → i ≤ us.length → vs.length - i = k → Meets (Builtin.«list.__eq__.loop» ⟨[.ref l, .ref b, rawInt i, rawInt 4], []⟩)
      (fun A R s => s.heap.get? l = some { cls := .type "list", dict := none, data := .seq vs.toArray n, slots := #[] } ∧ s.heap.get? b = some { cls := .type "list", dict := none, data := .seq us.toArray n2, slots := #[] } ∧
        R (.ok (.ret (.bool (ltL (ys.drop i) (xs.drop i))))) s) := by
  induction k with
  | zero =>
    intro i hv hu hk prog w A R s h
    obtain ⟨hp, g, d, tk, os⟩ := s; obtain ⟨hl, hb, h⟩ := h
    wp_walk using wpAny_loadPart' hl, wpAny_loadPart' hb
    obtain ⟨q1, q2⟩ := strsAre_none hx (i := i) (by omega)
    have hi1 : vs.toArray[((i : Nat) : Int).toNat]? = none := by simpa using q1
    rw [hi1]
    rw [q2] at h
    wp_walk using wpAny_loadPart' hl, wpAny_loadPart' hb
    show R (.ok (.ret (.bool (decide (us.toArray.size < vs.toArray.size))))) _
    have e : ltL (ys.drop i) [] = decide (us.toArray.size < vs.toArray.size) := by
      have l1 := strsAre_length hx
      have l2 := strsAre_length hy
      have l3 : xs.length ≤ i := List.drop_eq_nil_iff.mp q2
      have l4 : i = vs.length := by omega
      rcases Nat.lt_or_ge i us.length with hlt | hge
      · obtain ⟨y, u, p1, p2, p3⟩ := strsAre_get hy i hlt
        rw [p3]
        simp [ltL]; omega
      · obtain ⟨p1, p2⟩ := strsAre_none hy (i := i) hge
        rw [p2]
        simp [ltL]; omega
    rw [← e]; exact h
  | succ k ih =>
    intro i hv hu hk prog w A R s h
    obtain ⟨hp, g, d, tk, os⟩ := s; obtain ⟨hl, hb, h⟩ := h
    wp_walk using wpAny_loadPart' hl, wpAny_loadPart' hb
    obtain ⟨x, t, q1, q2, q3⟩ := strsAre_get hx i (by omega)
    have hi1 : vs.toArray[((i : Nat) : Int).toNat]? = some (.str x t) := by simpa using q1
    have hc : ((i : Int) + 1) = ((i + 1 : Nat) : Int) := by push_cast; rfl
    rw [hi1]
    rw [q3] at h
    rcases Nat.lt_or_ge i us.length with hlt | hge
    · obtain ⟨y, u, p1, p2, p3⟩ := strsAre_get hy i hlt
      have hi2 : us.toArray[((i : Nat) : Int).toNat]? = some (.str y u) := by simpa using p1
      rw [hi2]
      rw [p3] at h
      refine wpAny_bind (wpAny_eqBool_str ?_)
      by_cases e : x = y
      · subst e
        rw [decide_eq_true rfl]
        rw [ltL, if_pos rfl] at h
        wp_walk
        rw [hc]
        exact ⟨plainId_quiet plain_eq_loop _, codeAny_builtin entry_eq_loop (by
          rw [Around.under_plainId plain_eq_loop _]
          exact ih (i + 1) (by omega) (by omega) (by omega) prog w A R _ ⟨hl, hb, h⟩)⟩
      · rw [decide_eq_false e]
        rw [ltL, if_neg (fun q => e q.symm)] at h
        wp_walk using wpAny_loadPart' hl, wpAny_loadPart' hb
        rw [hi1, hi2]
        show wpAny _ _ (richCompare .Gt (.str x t) (.str y u) >>= _) _ _ _
        refine wpAny_bind (show wpAny _ _ (compareOp .Gt (.str x t) (.str y u)) _ _ _ from PySem.P.gt_str ?_)
        exact wpAny_pure h
    · obtain ⟨p1, p2⟩ := strsAre_none hy (i := i) hge
      have hi2 : us.toArray[((i : Nat) : Int).toNat]? = none := by simpa using p1
      rw [hi2]
      rw [p2] at h
      wp_walk using wpAny_loadPart' hl, wpAny_loadPart' hb
      show R (.ok (.ret (.bool (decide (us.toArray.size < vs.toArray.size))))) _
      rw [show decide (us.toArray.size < vs.toArray.size) = true from by simp; omega]
      exact h
theorem gt_body (l b : Addr) (vs us : List Value) (xs ys : List Str) (n n2 : Nat) (hx : StrsAre vs xs) (hy : StrsAre us ys) :
    Meets (Builtin.«list.__gt__» ⟨[.ref l, .ref b], []⟩)
      (fun A R s => s.heap.get? l = some { cls := .type "list", dict := none, data := .seq vs.toArray n, slots := #[] } ∧ s.heap.get? b = some { cls := .type "list", dict := none, data := .seq us.toArray n2, slots := #[] } ∧
        R (.ok (.ret (.bool (ltL ys xs)))) s) := by
  intro prog w A R s h
  obtain ⟨hp, g, d, tk, os⟩ := s; obtain ⟨hl, hb, h⟩ := h
  have f3 := AutoSeq1.sub_list_list
  wp_walk using wpAny_loadPart' hl, wpAny_loadPart' hb
  exact ⟨plainId_quiet plain_eq_loop _, codeAny_builtin entry_eq_loop (by
    rw [Around.under_plainId plain_eq_loop _]
    exact gt_loop l b vs us xs ys n n2 hx hy _ 0 (Nat.zero_le _) (Nat.zero_le _) rfl prog w A R _ ⟨hl, hb, h⟩)⟩
section
variable {prog : Program} {w : World} {A : Around} {E : Value → Shared → Prop} {s : Shared}
theorem gt_lists {l b : Addr} {vs us : List Value} {xs ys : List Str} {n n2 : Nat} {Q : Value → Shared → Prop} (hx : StrsAre vs xs) (hy : StrsAre us ys)
    (hl : s.heap.get? l = some (lobj vs.toArray n)) (hb : s.heap.get? b = some (lobj us.toArray n2)) (hu : A.units < cLine) (h : Q (.bool (ltL ys xs)) s) : wpAny (model prog w) A (richCompare .Gt (.ref l) (.ref b)) Q E s :=
  richCompare_meets_room (op := .Gt) ⟨_, hl, rfl⟩ ⟨_, hb, rfl⟩ F.slot_list_gt F.entry_list_gt (F.args_list_gt_2 _ _) (gt_body l b vs us xs ys n n2 hx hy)
    ⟨hl, hb, show Value.bool (ltL ys xs) ≠ Value.notImplemented ∧ Q (.bool (ltL ys xs)) s from ⟨(fun x => nomatch x), h⟩⟩ hu
end
end Mine
end

noncomputable section
set_option maxRecDepth 100000
namespace Mine
open PySem PySem.W PyProof.Rows PySem.Calls
def CmpSt (prog : Program) (w : World) (A : Around) (op : CmpOp) (P : Nat → Value → Prop) (H : Heap → Prop) (bt : Nat → Nat → Bool) : Prop :=
  ∀ i j vi vj (s : Shared) (Q : Value → Shared → Prop) (E : Value → Shared → Prop), H s.heap → P i vi → P j vj → Q (.bool (bt i j)) s → wpAny (model prog w) A (richCompare op vi vj) Q E s
section
variable {prog : Program} {w : World} {A : Around} {R : Result → Shared → Prop} {I : Addr} {fp wr : List Addr} {n : Nat} {P : Nat → Value → Prop} {St : Nat → Heap → Prop} {H : Heap → Prop}
theorem min_loopH (W : Walks prog w A.in1 I fp wr n P St) (hH : ∀ i h, St i h → H h) (bt : Nat → Nat → Bool) (hcmp : CmpSt prog w A.in1 .Lt P H bt) (S : Addr) (hSf : S ∉ fp) :
    ∀ (k j : Nat) (s : Shared) (vb : Value) (c : Nat), n - (j + 1) = k → j + 1 ≤ n → St (j + 1) s.heap → P (argBest bt j) vb →
    s.heap.get? S = some { cls := .type "list", dict := none, data := .seq #[vb, vb] c, slots := #[] } →
    (∀ v h' tk, P (argBest bt (n - 1)) v → (∀ b o, b ∉ wr → b ≠ S → s.heap.get? b = some o → h'.get? b = some o) → R (.ok (.ret v)) { s with heap := h', toks := tk }) →
    codeAny (model prog w) A (.builtin "min.loop" ⟨[.ref I, .none, .ref S], []⟩) R s := by
  have hSw : S ∉ wr := fun h => hSf (W.sub _ h)
  have hname : (toString "min" ++ toString ".loop" : String) = "min.loop" := by decide
  intro k
  induction k with
  | zero =>
    intro j s vb c hk hj hst hPb hS hR
    have hin : j + 1 = n := by omega
    refine codeAny_builtin F.entry_min_loop ?_
    rw [Around.under_plainId F.plain_min_loop _]
    show wpAny _ A.in1 (seqItems? (.ref S) >>= _) _ _ s
    refine wpAny_bind (wpAny_seqItems hS rfl ?_)
    show wpAny _ A.in1 (tryCatch (pyNext (.ref I)) _ >>= _) _ _ s
    refine wpAny_bind (wpAny_tryCatch (W.done s _ _ (hin ▸ hst) fun h' tk hk' => ?_))
    have hS' := hk' S _ hSw hS
    show wpAny _ A.in1 (updateSeq S (fun _ => #[]) >>= _) _ _ _
    refine wpAny_bind ?_
    refine wpAny_updateSeq hS' rfl (wpAny_bind (wpAny_letGo (wpAny_pure ?_)))
    refine hR vb _ tk (by rw [← hin]; exact hPb) fun b o hbw hbS e => (Heap.get?_update_other _ _ (Ne.symm hbS)).trans (hk' b o hbw e)
  | succ k ih =>
    intro j s vb c hk hj hst hPb hS hR
    have hlt : j + 1 < n := by omega
    refine codeAny_builtin F.entry_min_loop ?_
    rw [Around.under_plainId F.plain_min_loop _]
    show wpAny _ A.in1 (seqItems? (.ref S) >>= _) _ _ s
    refine wpAny_bind (wpAny_seqItems hS rfl ?_)
    show wpAny _ A.in1 (tryCatch (pyNext (.ref I)) _ >>= _) _ _ s
    refine wpAny_bind (wpAny_tryCatch (W.item (j + 1) s _ _ hlt hst fun v h' tk hP hst' hk' => ?_))
    have hS' := hk' S _ hSw hS
    show wpAny _ A.in1 (tryCatch (holding [v, v] (richCompare .Lt v vb >>= _)) _ >>= _) _ _ _
    refine wpAny_bind (wpAny_tryCatch (wpAny_holding (wpAny_bind (hcmp (j + 1) (argBest bt j) v vb _ _ _ (hH _ _ hst') hP hPb ?_))))
    refine wpAny_bind (wpAny_holding (wpAny_truthy_bool ?_))
    refine wpAny_bind (wpAny_letGo (wpAny_pure ?_))
    cases hb : bt (j + 1) (argBest bt j) with
    | true =>
      simp only [if_true]
      refine wpAny_bind ?_
      refine wpAny_updateSeq hS' rfl (wpAny_bind (wpAny_letGo ?_))
      rw [hname]
      refine wpAny_pure ⟨plainId_quiet F.plain_min_loop _, ih (j + 1) _ v _ (by omega) hlt (W.frame _ _ _ hst' fun b hbf o e => ?_) (by simp only [argBest, hb, if_true]; exact hP) (Heap.get?_update_self _ hS' rfl)
        fun v' h'' tk'' hP' hk'' => ?_⟩
      · exact (Heap.get?_update_other _ _ (fun h : S = b => hSf (by rw [h]; exact hbf))).trans e
      · exact hR v' h'' tk'' hP' fun b o hbw hbS e => hk'' b o hbw hbS ((Heap.get?_update_other _ _ (Ne.symm hbS)).trans (hk' b o hbw e))
    | false =>
      simp only [Bool.false_eq_true, if_false]
      refine wpAny_bind (wpAny_letGo ?_)
      rw [hname]
      refine wpAny_pure ⟨plainId_quiet F.plain_min_loop _, ih (j + 1) _ vb c (by omega) hlt hst' (by simp only [argBest, hb, Bool.false_eq_true, if_false]; exact hPb) hS' fun v' h'' tk'' hP' hk'' => ?_⟩
      exact hR v' h'' tk'' hP' fun b o hbw hbS e => hk'' b o hbw hbS (hk' b o hbw e)
theorem min_firstH (W : Walks prog w A.in1 I fp wr n P St) (hH : ∀ i h, St i h → H h) (bt : Nat → Nat → Bool) (hcmp : CmpSt prog w A.in1 .Lt P H bt) (S : Addr) (hSf : S ∉ fp) (hn : 0 < n) {s : Shared} {c : Nat} (hst : St 0 s.heap)
    (hS : s.heap.get? S = some { cls := .type "list", dict := none, data := .seq #[] c, slots := #[] })
    (hR : ∀ v h' tk, P (argBest bt (n - 1)) v → (∀ b o, b ∉ wr → b ≠ S → s.heap.get? b = some o → h'.get? b = some o) → R (.ok (.ret v)) { s with heap := h', toks := tk }) :
    codeAny (model prog w) A (.builtin "min.loop" ⟨[.ref I, .none, .ref S], []⟩) R s := by
  have hSw : S ∉ wr := fun h => hSf (W.sub _ h)
  have hname : (toString "min" ++ toString ".loop" : String) = "min.loop" := by decide
  refine codeAny_builtin F.entry_min_loop ?_
  rw [Around.under_plainId F.plain_min_loop _]
  show wpAny _ A.in1 (seqItems? (.ref S) >>= _) _ _ s
  refine wpAny_bind (wpAny_seqItems hS rfl ?_)
  show wpAny _ A.in1 (tryCatch (pyNext (.ref I)) _ >>= _) _ _ s
  refine wpAny_bind (wpAny_tryCatch (W.item 0 s _ _ hn hst fun v h' tk hP hst' hk' => ?_))
  have hS' := hk' S _ hSw hS
  show wpAny _ A.in1 (updateSeq S (fun _ => #[v, v]) >>= _) _ _ _
  refine wpAny_bind ?_
  refine wpAny_updateSeq hS' rfl ?_
  rw [hname]
  refine wpAny_pure ⟨plainId_quiet F.plain_min_loop _, min_loopH W hH bt hcmp S hSf _ 0 _ v _ rfl hn (W.frame _ _ _ hst' fun b hbf o e => ?_) hP (Heap.get?_update_self _ hS' rfl) fun v' h'' tk'' hP' hk'' => ?_⟩
  · exact (Heap.get?_update_other _ _ (fun h : S = b => hSf (by rw [h]; exact hbf))).trans e
  · exact hR v' h'' tk'' hP' fun b o hbw hbS e => hk'' b o hbw hbS ((Heap.get?_update_other _ _ (Ne.symm hbS)).trans (hk' b o hbw e))
end
section
variable {prog : Program} {w : World} {A : Around} {E : Value → Shared → Prop} {s : Shared}
theorem call_minH {x : Value} {Q : Value → Shared → Prop}
    (h : wpAny (model prog w) A.in1 (pyIter x) (fun it s₂ => ∃ I fp wr n P St H bt, it = .ref I ∧ Walks prog w A.in1 I fp wr n P St ∧ (∀ i h, St i h → H h) ∧ St 0 s₂.heap ∧ (∀ b ∈ fp, b < s₂.heap.objs.size) ∧ 0 < n ∧ CmpSt prog w A.in1 .Lt P H bt ∧
      ∀ v h' tk, P (argBest bt (n - 1)) v → (∀ b o, b ∉ wr → s₂.heap.get? b = some o → h'.get? b = some o) → Q v { s₂ with heap := h', toks := tk }) E s) :
    wpAny (model prog w) A (call (.builtin "min") [x]) Q E s := by
  have hname : (toString "min" ++ toString ".loop" : String) = "min.loop" := by decide
  refine call_function_tree F.kind_min F.plain_min F.entry_min (F.args_min1 _) ?_
  show wpAny _ A.in1 (Builtin.Builtins.bindParams "min" ["key", "default"] 0 ⟨[], []⟩ >>= _) _ _ s
  refine wpAny_bind (wpAny_of_eq (show Builtin.Builtins.bindParams "min" ["key", "default"] 0 ⟨[], []⟩ = pure [none, none] from rfl) ?_)
  refine wpAny_bind (wpAny_pure ?_)
  refine wpAny_bind (wpAny_mono h (fun it s₂ h₂ => ?_) fun _ _ e => e)
  obtain ⟨I, fp, wr, n, P, St, H, bt, rfl, W, hH, hst, hfp, hn, hcmp, hQ⟩ := h₂
  refine wpAny_bind (wpAny_newObj_type ?_)
  have hSf : s₂.heap.objs.size ∉ fp := fun hm => Nat.lt_irrefl _ (hfp _ hm)
  rw [hname]
  refine wpAny_pure ⟨plainId_quiet F.plain_min_loop _, min_firstH W hH bt hcmp s₂.heap.objs.size hSf hn (W.frame _ _ _ hst fun b _ o e => Heap.get?_push_of_some _ e) (Heap.get?_push_size _ rfl) fun v h' tk hP hk => ?_⟩
  exact hQ v h' tk hP fun b o hbw e => hk b o hbw (Nat.ne_of_lt (Heap.lt_size e)) (Heap.get?_push_of_some _ e)
end
section
variable {prog : Program} {w : World} {A : Around} {E : Value → Shared → Prop} {s : Shared} {h₀ : Heap} {L l : Addr} {m : Str → Option Value}
theorem min_lists {news : List (Addr × Obj)} {vs : List Value} {xss : List (List Str)} {n : Nat} {Q : Value → Shared → Prop} (F : Fr h₀ L s.heap m) (N : News h₀ L s.heap news) (hl : (l, lobj vs.toArray n) ∈ news)
    (hv : LL news vs xss) (hne : 0 < vs.length) (hh : A.handled = none) (hu : A.in1.units < cLine)
    (h : ∀ v h' tk, Fr h₀ L h' m → News h₀ L h' news → SL news v (xss.getD (argBest (fun i j => ltL (xss.getD i []) (xss.getD j [])) (vs.length - 1)) []) → Q v { s with heap := h', toks := tk }) :
    wpAny (model prog w) A (call (.builtin "min") [.ref l]) Q E s := by
  have isl : s.heap.IsList l vs.toArray := ⟨_, (N _ hl).1, rfl, _, rfl⟩
  have hlt : l < s.heap.objs.size := Heap.lt_size (N _ hl).1
  refine call_minH (wpAny_pyIter_list isl ?_)
  have up : ∀ b o, s.heap.get? b = some o → (s.heap.push { cls := .type "list_iterator", data := .fields #[.ref l, .int 0 0] }).get? b = some o := fun b o e => Heap.get?_push_of_some _ e
  have W := Walks.list (prog := prog) (w := w) (A := A.in1) hh s.heap.objs.size l (Nat.ne_of_lt hlt) vs.toArray
  have W' : Walks prog w A.in1 s.heap.objs.size (s.heap.objs.size :: l :: news.map (·.1)) [s.heap.objs.size] vs.toArray.size (fun i v => vs.toArray[i]? = some v) (fun i h => (h.IsListIter s.heap.objs.size l i ∧ h.IsList l vs.toArray) ∧ ∀ p ∈ news, h.get? p.1 = some p.2) :=
    { sub := fun b hb => by rw [List.mem_singleton.mp hb]; exact .head _
      frame := fun i h h' st hk => ⟨W.frame i h h' st.1 fun b hb o e => hk b (by
          rcases List.mem_cons.mp hb with rfl | hb
          · exact .head _
          · rw [List.mem_singleton.mp hb]; exact .tail _ (.head _)) o e, fun p hp => hk _ (.tail _ (.tail _ (List.mem_map_of_mem hp))) _ (st.2 p hp)⟩
      item := fun i s' Q E hi st hQ => W.item i s' Q E hi st.1 fun v h' tk hP hst hk => hQ v h' tk hP ⟨hst, fun p hp => hk _ _ (fun q => Nat.ne_of_lt (Heap.lt_size (N p hp).1) (List.mem_singleton.mp q)) (st.2 p hp)⟩ hk
      done := fun s' Q E st hQ => W.done s' Q E st.1 hQ
      self := fun i s' Q E st hQ => W.self i s' Q E st.1 hQ }
  refine ⟨_, _, _, _, _, _, fun h => ∀ p ∈ news, h.get? p.1 = some p.2, fun i j => ltL (xss.getD i []) (xss.getD j []), rfl, W', fun i h st => st.2, ⟨⟨⟨_, Heap.get?_push_size _ rfl, rfl, rfl⟩, isl.push _⟩, fun p hp => up _ _ (N p hp).1⟩, ?_, by simpa using hne, ?_, ?_⟩
  · intro b hb
    show b < (s.heap.push _).objs.size
    rw [Heap.size_push]
    rcases List.mem_cons.mp hb with rfl | hb
    · exact Nat.lt_succ_self _
    rcases List.mem_cons.mp hb with rfl | hb
    · exact Nat.lt_succ_of_lt hlt
    · obtain ⟨p, hp, rfl⟩ := List.mem_map.mp hb
      exact Nat.lt_succ_of_lt (Heap.lt_size (N p hp).1)
  · intro i j vi vj s' Q' E' hH hi hj hq
    obtain ⟨xs, hx, a, us, n1, rfl, m1, s1⟩ := hv.at (by simpa using hi)
    obtain ⟨ys, hy, b, ws, n2, rfl, m2, s2⟩ := hv.at (by simpa using hj)
    refine lt_lists s1 s2 (hH _ m1) (hH _ m2) hu ?_
    rw [show xs = xss.getD i [] from by simp [List.getD_eq_getElem?_getD, hx], show ys = xss.getD j [] from by simp [List.getD_eq_getElem?_getD, hy]]
    exact hq
  · intro v h' tk hP hk
    have hk' : ∀ b o, s.heap.get? b = some o → h'.get? b = some o := fun b o e => hk b o (fun q => Nat.ne_of_lt (Heap.lt_size e) (List.mem_singleton.mp q)) (up _ _ e)
    rw [List.getElem?_toArray, List.size_toArray] at hP
    obtain ⟨xs, hx, r⟩ := hv.at hP
    refine h v h' tk (F.keeps hk') (fun p hp => ⟨hk' _ _ (N p hp).1, (N p hp).2⟩) ?_
    rw [show xss.getD _ [] = xs from by rw [List.getD_eq_getElem?_getD, hx]; rfl]
    exact r
end
section
variable {prog : Program} {w : World} {A : Around} {R : Result → Shared → Prop} {I : Addr} {fp wr : List Addr} {n : Nat} {P : Nat → Value → Prop} {St : Nat → Heap → Prop} {H : Heap → Prop}
theorem max_loopH (W : Walks prog w A.in1 I fp wr n P St) (hH : ∀ i h, St i h → H h) (bt : Nat → Nat → Bool) (hcmp : CmpSt prog w A.in1 .Gt P H bt) (S : Addr) (hSf : S ∉ fp) :
    ∀ (k j : Nat) (s : Shared) (vb : Value) (c : Nat), n - (j + 1) = k → j + 1 ≤ n → St (j + 1) s.heap → P (argBest bt j) vb →
    s.heap.get? S = some { cls := .type "list", dict := none, data := .seq #[vb, vb] c, slots := #[] } →
    (∀ v h' tk, P (argBest bt (n - 1)) v → (∀ b o, b ∉ wr → b ≠ S → s.heap.get? b = some o → h'.get? b = some o) → R (.ok (.ret v)) { s with heap := h', toks := tk }) →
    codeAny (model prog w) A (.builtin "max.loop" ⟨[.ref I, .none, .ref S], []⟩) R s := by
  have hSw : S ∉ wr := fun h => hSf (W.sub _ h)
  have hname : (toString "max" ++ toString ".loop" : String) = "max.loop" := by decide
  intro k
  induction k with
  | zero =>
    intro j s vb c hk hj hst hPb hS hR
    have hin : j + 1 = n := by omega
    refine codeAny_builtin F.entry_max_loop ?_
    rw [Around.under_plainId F.plain_max_loop _]
    show wpAny _ A.in1 (seqItems? (.ref S) >>= _) _ _ s
    refine wpAny_bind (wpAny_seqItems hS rfl ?_)
    show wpAny _ A.in1 (tryCatch (pyNext (.ref I)) _ >>= _) _ _ s
    refine wpAny_bind (wpAny_tryCatch (W.done s _ _ (hin ▸ hst) fun h' tk hk' => ?_))
    have hS' := hk' S _ hSw hS
    show wpAny _ A.in1 (updateSeq S (fun _ => #[]) >>= _) _ _ _
    refine wpAny_bind ?_
    refine wpAny_updateSeq hS' rfl (wpAny_bind (wpAny_letGo (wpAny_pure ?_)))
    refine hR vb _ tk (by rw [← hin]; exact hPb) fun b o hbw hbS e => (Heap.get?_update_other _ _ (Ne.symm hbS)).trans (hk' b o hbw e)
  | succ k ih =>
    intro j s vb c hk hj hst hPb hS hR
    have hlt : j + 1 < n := by omega
    refine codeAny_builtin F.entry_max_loop ?_
    rw [Around.under_plainId F.plain_max_loop _]
    show wpAny _ A.in1 (seqItems? (.ref S) >>= _) _ _ s
    refine wpAny_bind (wpAny_seqItems hS rfl ?_)
    show wpAny _ A.in1 (tryCatch (pyNext (.ref I)) _ >>= _) _ _ s
    refine wpAny_bind (wpAny_tryCatch (W.item (j + 1) s _ _ hlt hst fun v h' tk hP hst' hk' => ?_))
    have hS' := hk' S _ hSw hS
    show wpAny _ A.in1 (tryCatch (holding [v, v] (richCompare .Gt v vb >>= _)) _ >>= _) _ _ _
    refine wpAny_bind (wpAny_tryCatch (wpAny_holding (wpAny_bind (hcmp (j + 1) (argBest bt j) v vb _ _ _ (hH _ _ hst') hP hPb ?_))))
    refine wpAny_bind (wpAny_holding (wpAny_truthy_bool ?_))
    refine wpAny_bind (wpAny_letGo (wpAny_pure ?_))
    cases hb : bt (j + 1) (argBest bt j) with
    | true =>
      simp only [if_true]
      refine wpAny_bind ?_
      refine wpAny_updateSeq hS' rfl (wpAny_bind (wpAny_letGo ?_))
      rw [hname]
      refine wpAny_pure ⟨plainId_quiet F.plain_max_loop _, ih (j + 1) _ v _ (by omega) hlt (W.frame _ _ _ hst' fun b hbf o e => ?_) (by simp only [argBest, hb, if_true]; exact hP) (Heap.get?_update_self _ hS' rfl)
        fun v' h'' tk'' hP' hk'' => ?_⟩
      · exact (Heap.get?_update_other _ _ (fun h : S = b => hSf (by rw [h]; exact hbf))).trans e
      · exact hR v' h'' tk'' hP' fun b o hbw hbS e => hk'' b o hbw hbS ((Heap.get?_update_other _ _ (Ne.symm hbS)).trans (hk' b o hbw e))
    | false =>
      simp only [Bool.false_eq_true, if_false]
      refine wpAny_bind (wpAny_letGo ?_)
      rw [hname]
      refine wpAny_pure ⟨plainId_quiet F.plain_max_loop _, ih (j + 1) _ vb c (by omega) hlt hst' (by simp only [argBest, hb, Bool.false_eq_true, if_false]; exact hPb) hS' fun v' h'' tk'' hP' hk'' => ?_⟩
      exact hR v' h'' tk'' hP' fun b o hbw hbS e => hk'' b o hbw hbS (hk' b o hbw e)
theorem max_firstH (W : Walks prog w A.in1 I fp wr n P St) (hH : ∀ i h, St i h → H h) (bt : Nat → Nat → Bool) (hcmp : CmpSt prog w A.in1 .Gt P H bt) (S : Addr) (hSf : S ∉ fp) (hn : 0 < n) {s : Shared} {c : Nat} (hst : St 0 s.heap)
    (hS : s.heap.get? S = some { cls := .type "list", dict := none, data := .seq #[] c, slots := #[] })
    (hR : ∀ v h' tk, P (argBest bt (n - 1)) v → (∀ b o, b ∉ wr → b ≠ S → s.heap.get? b = some o → h'.get? b = some o) → R (.ok (.ret v)) { s with heap := h', toks := tk }) :
    codeAny (model prog w) A (.builtin "max.loop" ⟨[.ref I, .none, .ref S], []⟩) R s := by
  have hSw : S ∉ wr := fun h => hSf (W.sub _ h)
  have hname : (toString "max" ++ toString ".loop" : String) = "max.loop" := by decide
  refine codeAny_builtin F.entry_max_loop ?_
  rw [Around.under_plainId F.plain_max_loop _]
  show wpAny _ A.in1 (seqItems? (.ref S) >>= _) _ _ s
  refine wpAny_bind (wpAny_seqItems hS rfl ?_)
  show wpAny _ A.in1 (tryCatch (pyNext (.ref I)) _ >>= _) _ _ s
  refine wpAny_bind (wpAny_tryCatch (W.item 0 s _ _ hn hst fun v h' tk hP hst' hk' => ?_))
  have hS' := hk' S _ hSw hS
  show wpAny _ A.in1 (updateSeq S (fun _ => #[v, v]) >>= _) _ _ _
  refine wpAny_bind ?_
  refine wpAny_updateSeq hS' rfl ?_
  rw [hname]
  refine wpAny_pure ⟨plainId_quiet F.plain_max_loop _, max_loopH W hH bt hcmp S hSf _ 0 _ v _ rfl hn (W.frame _ _ _ hst' fun b hbf o e => ?_) hP (Heap.get?_update_self _ hS' rfl) fun v' h'' tk'' hP' hk'' => ?_⟩
  · exact (Heap.get?_update_other _ _ (fun h : S = b => hSf (by rw [h]; exact hbf))).trans e
  · exact hR v' h'' tk'' hP' fun b o hbw hbS e => hk'' b o hbw hbS ((Heap.get?_update_other _ _ (Ne.symm hbS)).trans (hk' b o hbw e))
end
section
variable {prog : Program} {w : World} {A : Around} {E : Value → Shared → Prop} {s : Shared}
theorem call_maxH {x : Value} {Q : Value → Shared → Prop}
    (h : wpAny (model prog w) A.in1 (pyIter x) (fun it s₂ => ∃ I fp wr n P St H bt, it = .ref I ∧ Walks prog w A.in1 I fp wr n P St ∧ (∀ i h, St i h → H h) ∧ St 0 s₂.heap ∧ (∀ b ∈ fp, b < s₂.heap.objs.size) ∧ 0 < n ∧ CmpSt prog w A.in1 .Gt P H bt ∧
      ∀ v h' tk, P (argBest bt (n - 1)) v → (∀ b o, b ∉ wr → s₂.heap.get? b = some o → h'.get? b = some o) → Q v { s₂ with heap := h', toks := tk }) E s) :
    wpAny (model prog w) A (call (.builtin "max") [x]) Q E s := by
  have hname : (toString "max" ++ toString ".loop" : String) = "max.loop" := by decide
  refine call_function_tree F.kind_max F.plain_max F.entry_max (F.args_max1 _) ?_
  show wpAny _ A.in1 (Builtin.Builtins.bindParams "max" ["key", "default"] 0 ⟨[], []⟩ >>= _) _ _ s
  refine wpAny_bind (wpAny_of_eq (show Builtin.Builtins.bindParams "max" ["key", "default"] 0 ⟨[], []⟩ = pure [none, none] from rfl) ?_)
  refine wpAny_bind (wpAny_pure ?_)
  refine wpAny_bind (wpAny_mono h (fun it s₂ h₂ => ?_) fun _ _ e => e)
  obtain ⟨I, fp, wr, n, P, St, H, bt, rfl, W, hH, hst, hfp, hn, hcmp, hQ⟩ := h₂
  refine wpAny_bind (wpAny_newObj_type ?_)
  have hSf : s₂.heap.objs.size ∉ fp := fun hm => Nat.lt_irrefl _ (hfp _ hm)
  rw [hname]
  refine wpAny_pure ⟨plainId_quiet F.plain_max_loop _, max_firstH W hH bt hcmp s₂.heap.objs.size hSf hn (W.frame _ _ _ hst fun b _ o e => Heap.get?_push_of_some _ e) (Heap.get?_push_size _ rfl) fun v h' tk hP hk => ?_⟩
  exact hQ v h' tk hP fun b o hbw e => hk b o hbw (Nat.ne_of_lt (Heap.lt_size e)) (Heap.get?_push_of_some _ e)
end
section
variable {prog : Program} {w : World} {A : Around} {E : Value → Shared → Prop} {s : Shared} {h₀ : Heap} {L l : Addr} {m : Str → Option Value}
theorem max_lists {news : List (Addr × Obj)} {vs : List Value} {xss : List (List Str)} {n : Nat} {Q : Value → Shared → Prop} (F : Fr h₀ L s.heap m) (N : News h₀ L s.heap news) (hl : (l, lobj vs.toArray n) ∈ news)
    (hv : LL news vs xss) (hne : 0 < vs.length) (hh : A.handled = none) (hu : A.in1.units < cLine)
    (h : ∀ v h' tk, Fr h₀ L h' m → News h₀ L h' news → SL news v (xss.getD (argBest (fun i j => ltL (xss.getD j []) (xss.getD i [])) (vs.length - 1)) []) → Q v { s with heap := h', toks := tk }) :
    wpAny (model prog w) A (call (.builtin "max") [.ref l]) Q E s := by
  have isl : s.heap.IsList l vs.toArray := ⟨_, (N _ hl).1, rfl, _, rfl⟩
  have hlt : l < s.heap.objs.size := Heap.lt_size (N _ hl).1
  refine call_maxH (wpAny_pyIter_list isl ?_)
  have up : ∀ b o, s.heap.get? b = some o → (s.heap.push { cls := .type "list_iterator", data := .fields #[.ref l, .int 0 0] }).get? b = some o := fun b o e => Heap.get?_push_of_some _ e
  have W := Walks.list (prog := prog) (w := w) (A := A.in1) hh s.heap.objs.size l (Nat.ne_of_lt hlt) vs.toArray
  have W' : Walks prog w A.in1 s.heap.objs.size (s.heap.objs.size :: l :: news.map (·.1)) [s.heap.objs.size] vs.toArray.size (fun i v => vs.toArray[i]? = some v) (fun i h => (h.IsListIter s.heap.objs.size l i ∧ h.IsList l vs.toArray) ∧ ∀ p ∈ news, h.get? p.1 = some p.2) :=
    { sub := fun b hb => by rw [List.mem_singleton.mp hb]; exact .head _
      frame := fun i h h' st hk => ⟨W.frame i h h' st.1 fun b hb o e => hk b (by
          rcases List.mem_cons.mp hb with rfl | hb
          · exact .head _
          · rw [List.mem_singleton.mp hb]; exact .tail _ (.head _)) o e, fun p hp => hk _ (.tail _ (.tail _ (List.mem_map_of_mem hp))) _ (st.2 p hp)⟩
      item := fun i s' Q E hi st hQ => W.item i s' Q E hi st.1 fun v h' tk hP hst hk => hQ v h' tk hP ⟨hst, fun p hp => hk _ _ (fun q => Nat.ne_of_lt (Heap.lt_size (N p hp).1) (List.mem_singleton.mp q)) (st.2 p hp)⟩ hk
      done := fun s' Q E st hQ => W.done s' Q E st.1 hQ
      self := fun i s' Q E st hQ => W.self i s' Q E st.1 hQ }
  refine ⟨_, _, _, _, _, _, fun h => ∀ p ∈ news, h.get? p.1 = some p.2, fun i j => ltL (xss.getD j []) (xss.getD i []), rfl, W', fun i h st => st.2, ⟨⟨⟨_, Heap.get?_push_size _ rfl, rfl, rfl⟩, isl.push _⟩, fun p hp => up _ _ (N p hp).1⟩, ?_, by simpa using hne, ?_, ?_⟩
  · intro b hb
    show b < (s.heap.push _).objs.size
    rw [Heap.size_push]
    rcases List.mem_cons.mp hb with rfl | hb
    · exact Nat.lt_succ_self _
    rcases List.mem_cons.mp hb with rfl | hb
    · exact Nat.lt_succ_of_lt hlt
    · obtain ⟨p, hp, rfl⟩ := List.mem_map.mp hb
      exact Nat.lt_succ_of_lt (Heap.lt_size (N p hp).1)
  · intro i j vi vj s' Q' E' hH hi hj hq
    obtain ⟨xs, hx, a, us, n1, rfl, m1, s1⟩ := hv.at (by simpa using hi)
    obtain ⟨ys, hy, b, ws, n2, rfl, m2, s2⟩ := hv.at (by simpa using hj)
    refine gt_lists s1 s2 (hH _ m1) (hH _ m2) hu ?_
    rw [show xs = xss.getD i [] from by simp [List.getD_eq_getElem?_getD, hx], show ys = xss.getD j [] from by simp [List.getD_eq_getElem?_getD, hy]]
    exact hq
  · intro v h' tk hP hk
    have hk' : ∀ b o, s.heap.get? b = some o → h'.get? b = some o := fun b o e => hk b o (fun q => Nat.ne_of_lt (Heap.lt_size e) (List.mem_singleton.mp q)) (up _ _ e)
    rw [List.getElem?_toArray, List.size_toArray] at hP
    obtain ⟨xs, hx, r⟩ := hv.at hP
    refine h v h' tk (F.keeps hk') (fun p hp => ⟨hk' _ _ (N p hp).1, (N p hp).2⟩) ?_
    rw [show xss.getD _ [] = xs from by rw [List.getD_eq_getElem?_getD, hx]; rfl]
    exact r
end
end Mine
end

noncomputable section
namespace Mine
open PySem PySem.W PyProof.Rows
def partsS (x : Str) : List Str := (Txt.split x (Str.ofString "/")).filter (fun c => !(c.length == 0) && c != Str.ofString ".")
def minP (L : List (List Str)) : List Str := L.getD (argBest (fun i j => ltL (L.getD i []) (L.getD j [])) (L.length - 1)) []
def maxP (L : List (List Str)) : List Str := L.getD (argBest (fun i j => ltL (L.getD j []) (L.getD i [])) (L.length - 1)) []
def absA (xs : List Str) : Bool := (List.range xs.length).any fun i => Txt.startswith (xs.getD i ⟨#[]⟩) (Str.ofString "/")
def relA (xs : List Str) : Bool := (List.range xs.length).any fun i => !Txt.startswith (xs.getD i ⟨#[]⟩) (Str.ofString "/")
noncomputable def lcp : List Str → List Str → List Str
  | a :: r, b :: t => if a = b then a :: lcp r t else []
  | _, _ => []
def cpS (xs : List Str) : Str := (if absA xs = true then Str.ofString "/" else ⟨#[]⟩) ++ Txt.join (Str.ofString "/") (lcp (minP (xs.map partsS)) (maxP (xs.map partsS)))
theorem ltS_irrefl (a : Str) : ltS a a = false := by simp [ltS, List.lt_irrefl]
theorem ltS_trans {a b c : Str} (h1 : ltS a b = true) (h2 : ltS b c = true) : ltS a c = true := by
  simp only [ltS, decide_eq_true_eq] at *
  exact List.lt_trans h1 h2
theorem ltS_tri {a b : Str} (h1 : ltS a b = false) (h2 : ltS b a = false) : a = b := by
  simp only [ltS, decide_eq_false_iff_not, List.not_lt] at *
  have := List.le_antisymm h2 h1
  cases a; cases b
  simp only [Str.mk.injEq]
  exact Array.toList_inj.mp this
theorem ltL_irrefl (a : List Str) : ltL a a = false := by
  induction a with
  | nil => rfl
  | cons x r ih => rw [ltL, if_pos rfl]; exact ih
theorem ltL_trans : ∀ (a b c : List Str), ltL a b = true → ltL b c = true → ltL a c = true
  | [], [], _, h1, _ => by simp [ltL] at h1
  | [], _ :: _, [], _, h2 => by simp [ltL] at h2
  | [], _ :: _, _ :: _, _, _ => rfl
  | _ :: _, [], _, h1, _ => by simp [ltL] at h1
  | _ :: _, _ :: _, [], _, h2 => by simp [ltL] at h2
  | x :: a, y :: b, z :: c, h1, h2 => by
    simp only [ltL] at h1 h2 ⊢
    by_cases e1 : x = y
    · subst e1
      rw [if_pos rfl] at h1
      by_cases e2 : x = z
      · rw [if_pos e2] at h2 ⊢; exact ltL_trans a b c h1 h2
      · rw [if_neg e2] at h2 ⊢; exact h2
    · rw [if_neg e1] at h1
      by_cases e2 : y = z
      · subst e2
        rw [if_neg e1]; exact h1
      · rw [if_neg e2] at h2
        have h3 := ltS_trans h1 h2
        by_cases e3 : x = z
        · subst e3; rw [ltS_irrefl] at h3; cases h3
        · rw [if_neg e3]; exact h3
theorem ltL_tri : ∀ (a b : List Str), ltL a b = false → ltL b a = false → a = b
  | [], [], _, _ => rfl
  | [], _ :: _, h1, _ => by simp [ltL] at h1
  | _ :: _, [], _, h2 => by simp [ltL] at h2
  | x :: a, y :: b, h1, h2 => by
    simp only [ltL] at h1 h2
    by_cases e : x = y
    · subst e
      rw [if_pos rfl] at h1 h2
      rw [ltL_tri a b h1 h2]
    · rw [if_neg e] at h1
      rw [if_neg (fun q => e q.symm)] at h2
      exact absurd (ltS_tri h1 h2) e
theorem ltL_ntrans {a b c : List Str} (h1 : ltL b a = false) (h2 : ltL c b = false) : ltL c a = false := by
  cases h : ltL c a with
  | false => rfl
  | true =>
    cases h3 : ltL a b with
    | true => rw [ltL_trans c a b h h3] at h2; cases h2
    | false => rw [ltL_tri a b h3 h1] at h; rw [h] at h2; cases h2
theorem ltL_asymm {a b : List Str} (h : ltL a b = true) : ltL b a = false := by
  cases h2 : ltL b a with
  | false => rfl
  | true => have := ltL_trans _ _ _ h h2; rw [ltL_irrefl] at this; cases this
theorem argBest_le (bt : Nat → Nat → Bool) : ∀ k, argBest bt k ≤ k
  | 0 => Nat.le_refl _
  | k + 1 => by
    rw [argBest]
    have := argBest_le bt k
    split <;> omega
theorem argBest_best (bt : Nat → Nat → Bool) (irr : ∀ i, bt i i = false) (tr : ∀ i j k, bt j i = false → bt k j = false → bt k i = false) (as : ∀ i j, bt i j = true → bt j i = false) : ∀ k i, i ≤ k → bt i (argBest bt k) = false
  | 0, i, h => by
    have : i = 0 := by omega
    subst this; exact irr 0
  | k + 1, i, h => by
    rw [argBest]
    cases hb : bt (k + 1) (argBest bt k) with
    | true =>
      simp only [if_true]
      rcases Nat.lt_or_ge i (k + 1) with q | q
      · exact tr _ _ _ (as _ _ hb) (argBest_best bt irr tr as k i (by omega))
      · have : i = k + 1 := by omega
        subst this; exact irr _
    | false =>
      simp only [Bool.false_eq_true, if_false]
      rcases Nat.lt_or_ge i (k + 1) with q | q
      · exact argBest_best bt irr tr as k i (by omega)
      · have : i = k + 1 := by omega
        subst this; exact hb
theorem minP_mem {L : List (List Str)} (h : L ≠ []) : minP L ∈ L := by
  have hl : 0 < L.length := List.length_pos_iff.mpr h
  have := argBest_le (fun i j => ltL (L.getD i []) (L.getD j [])) (L.length - 1)
  unfold minP
  rw [List.getD_eq_getElem?_getD, List.getElem?_eq_getElem (by omega)]
  exact List.getElem_mem _
theorem maxP_mem {L : List (List Str)} (h : L ≠ []) : maxP L ∈ L := by
  have hl : 0 < L.length := List.length_pos_iff.mpr h
  have := argBest_le (fun i j => ltL (L.getD j []) (L.getD i [])) (L.length - 1)
  unfold maxP
  rw [List.getD_eq_getElem?_getD, List.getElem?_eq_getElem (by omega)]
  exact List.getElem_mem _
theorem minP_le {L : List (List Str)} {a : List Str} (h : a ∈ L) : ltL a (minP L) = false := by
  obtain ⟨i, hi, e⟩ := List.mem_iff_getElem.mp h
  have := argBest_best (fun i j => ltL (L.getD i []) (L.getD j [])) (fun _ => ltL_irrefl _) (fun _ _ _ h1 h2 => ltL_ntrans h1 h2) (fun _ _ h => ltL_asymm h) (L.length - 1) i (by omega)
  rw [show L.getD i [] = a from by rw [List.getD_eq_getElem?_getD, List.getElem?_eq_getElem hi]; exact e] at this
  exact this
theorem maxP_ge {L : List (List Str)} {a : List Str} (h : a ∈ L) : ltL (maxP L) a = false := by
  obtain ⟨i, hi, e⟩ := List.mem_iff_getElem.mp h
  have := argBest_best (fun i j => ltL (L.getD j []) (L.getD i [])) (fun _ => ltL_irrefl _) (fun _ _ _ h1 h2 => ltL_ntrans h2 h1) (fun _ _ h => ltL_asymm h) (L.length - 1) i (by omega)
  rw [show L.getD i [] = a from by rw [List.getD_eq_getElem?_getD, List.getElem?_eq_getElem hi]; exact e] at this
  exact this
theorem max_min {L : List (List Str)} (h : L ≠ []) : ltL (maxP L) (minP L) = false := maxP_ge (minP_mem h)
theorem idx_in : ∀ (a b : List Str) (i : Nat), ltL b a = false → a.take i = b.take i → i < a.length → i < b.length
  | [], _, _, _, _, h => by simp at h
  | _ :: _, [], i, h1, _, _ => by simp [ltL] at h1
  | x :: a, y :: b, 0, _, _, _ => by simp
  | x :: a, y :: b, i + 1, h1, h2, h3 => by
    simp only [List.take_succ_cons, List.cons.injEq] at h2
    obtain ⟨rfl, h2⟩ := h2
    rw [ltL, if_pos rfl] at h1
    have := idx_in a b i h1 h2 (by simpa using h3)
    simpa using this
theorem lcp_stop : ∀ (a b : List Str) (i : Nat), a.take i = b.take i → a[i]? ≠ b[i]? → a.take i = lcp a b
  | [], _, _, _, _ => by simp [lcp]
  | x :: a, [], i, h, _ => by
    cases i with
    | zero => rfl
    | succ i => simp at h
  | x :: a, y :: b, 0, _, h => by
    have : x ≠ y := by simpa using h
    rw [lcp, if_neg this]; rfl
  | x :: a, y :: b, i + 1, h1, h2 => by
    simp only [List.take_succ_cons, List.cons.injEq] at h1
    obtain ⟨rfl, h1⟩ := h1
    rw [lcp, if_pos rfl, List.take_succ_cons, lcp_stop a b i h1 (by simpa using h2)]
theorem lcp_end : ∀ (a b : List Str), a = b.take a.length → a = lcp a b
  | [], _, _ => by simp [lcp]
  | x :: a, [], h => by simp at h
  | x :: a, y :: b, h => by
    simp only [List.length_cons, List.take_succ_cons, List.cons.injEq] at h
    obtain ⟨rfl, h⟩ := h
    rw [lcp, if_pos rfl, ← lcp_end a b h]
theorem strsAre_drop {vs : List Value} {xs : List Str} (h : StrsAre vs xs) : ∀ i, StrsAre (vs.drop i) (xs.drop i) := by
  induction h with
  | nil => intro i; simp; exact .nil
  | cons a t h ih =>
    intro i
    cases i with
    | zero => exact .cons a t h
    | succ i => exact ih i
theorem strsAre_take {vs : List Value} {xs : List Str} (h : StrsAre vs xs) : ∀ i, StrsAre (vs.take i) (xs.take i) := by
  induction h with
  | nil => intro i; simp; exact .nil
  | cons a t h ih =>
    intro i
    cases i with
    | zero => exact .nil
    | succ i => exact .cons a t (ih i)
theorem lcp_mem : ∀ (a b : List Str) (c : Str), c ∈ lcp a b → c ∈ a
  | [], _, c, h => by simp [lcp] at h
  | x :: a, [], c, h => by simp [lcp] at h
  | x :: a, y :: b, c, h => by
    rw [lcp] at h
    by_cases e : x = y
    · rw [if_pos e] at h
      rcases List.mem_cons.mp h with rfl | h
      · exact .head _
      · exact .tail _ (lcp_mem a b c h)
    · rw [if_neg e] at h; cases h
theorem lcp_len : ∀ (a b : List Str), (lcp a b).length ≤ a.length
  | [], _ => by simp [lcp]
  | x :: a, [] => by simp [lcp]
  | x :: a, y :: b => by
    rw [lcp]
    by_cases e : x = y
    · rw [if_pos e]; simpa using lcp_len a b
    · rw [if_neg e]; simp
theorem sum_le {l : List Str} {K : Nat} (h : ∀ c ∈ l, c.length ≤ K) : (l.map (·.length)).sum ≤ l.length * K := by
  induction l with
  | nil => simp
  | cons a r ih =>
    have h1 := h a (.head _)
    have h2 := ih fun c hc => h c (.tail _ hc)
    simp only [List.map_cons, List.sum_cons, List.length_cons, Nat.succ_mul]
    omega
theorem split_sum (x : Str) : ((Txt.split x (Str.ofString "/")).map (·.length)).sum + ((Txt.split x (Str.ofString "/")).length - 1) = x.length := by
  have h1 := size_glued (Str.ofString "/") (Txt.split x (Str.ofString "/"))
  rw [StrLaws.glued_eq_join, StrLaws.join_split] at h1
  rw [h1, show (Str.ofString "/").length = 1 from by decide, Nat.mul_one]
theorem split_len (x : Str) : (Txt.split x (Str.ofString "/")).length ≤ x.length + 1 := by
  have := split_sum x
  omega
theorem partsS_len (x : Str) : (partsS x).length ≤ x.length + 1 := Nat.le_trans (List.length_filter_le _ _) (split_len x)
theorem le_sum_of_mem {l : List Nat} {a : Nat} (h : a ∈ l) : a ≤ l.sum := by
  induction l with
  | nil => cases h
  | cons b r ih =>
    rcases List.mem_cons.mp h with rfl | h
    · simp
    · have := ih h; simp; omega
theorem split_mem_len {x c : Str} (h : c ∈ Txt.split x (Str.ofString "/")) : c.length ≤ x.length := by
  have := split_sum x
  have h2 := le_sum_of_mem (List.mem_map_of_mem (f := fun y : Str => y.length) h)
  omega
theorem join_len {xs : List Str} (hw : (xs.map (·.length)).sum + xs.length ≤ 1048576) : (Str.ofString "/").length + (Txt.join (Str.ofString "/") xs).length ≤ sizeLine := by
  have h1 := size_glued (Str.ofString "/") xs
  rw [show (Str.ofString "/").length = 1 from by decide, Nat.mul_one] at *
  show 1 + (Builtin.Str.glued _ _).length ≤ _
  rw [h1, sizeLine_eq]
  omega
theorem weight_lcp {xs : List Str} (hne : xs ≠ []) (hlen : ∀ x ∈ xs, x.length ≤ 1000) : ((lcp (minP (xs.map partsS)) (maxP (xs.map partsS))).map (·.length)).sum + (lcp (minP (xs.map partsS)) (maxP (xs.map partsS))).length ≤ 1048576 := by
  obtain ⟨xa, xm, e⟩ := List.mem_map.mp (minP_mem (L := xs.map partsS) (by simpa using hne))
  have h1 : ∀ c ∈ lcp (minP (xs.map partsS)) (maxP (xs.map partsS)), c.length ≤ 1000 := fun c hc => by
    have := lcp_mem _ _ c hc
    rw [← e] at this
    exact Nat.le_trans (split_mem_len (List.mem_filter.mp this).1) (hlen xa xm)
  have h2 := sum_le h1
  have h3 : (lcp (minP (xs.map partsS)) (maxP (xs.map partsS))).length ≤ 1001 := Nat.le_trans (lcp_len _ _) (by rw [← e]; exact Nat.le_trans (partsS_len xa) (Nat.succ_le_succ (hlen xa xm)))
  generalize (lcp (minP (xs.map partsS)) (maxP (xs.map partsS))).length = n at *
  have : n * 1000 ≤ 1001 * 1000 := Nat.mul_le_mul_right _ h3
  omega
end Mine
end

noncomputable section
namespace Mine
open PySem PySem.W PyProof.Rows Builtin Builtin.Str
def norm (x : Str) : List Str := Txt.split (Txt.replace (Txt.replace x (Str.ofString "\x0d\n") (Str.ofString "\n")) (Str.ofString "\x0d") (Str.ofString "\n")) (Str.ofString "\n")
def rowS (more : Str) (b : Bool) (r : Str) : Str := if b = true ∧ (Txt.slice r none (some 1) == Str.ofString ".") = true then more ++ r else r
noncomputable def rowsGo (more : Str) : Bool → List Str → List Str
  | _, [] => []
  | b, r :: t => rowS more b r :: rowsGo more true t
def pieceS (more : Str) (b : Bool) (x : Str) : Str := Txt.join (Str.ofString "\x0d\n") (rowsGo more b (norm x))
noncomputable def piecesGo (more : Str) : Bool → List Str → List Str
  | _, [] => []
  | b, p :: t => pieceS more b p :: piecesGo more false t
def lawPieces (x more : Str) : List Str := (piecesGo more true (Txt.split x (Str.ofString "/"))).filter (fun p => !(p == Str.ofString "" || p == Str.ofString "."))
theorem rowsGo_snoc (more : Str) : ∀ (b : Bool) (l : List Str) (r : Str), rowsGo more b (l ++ [r]) = rowsGo more b l ++ [rowS more (b || !l.isEmpty) r]
  | b, [], r => by simp [rowsGo]
  | b, a :: l, r => by
    rw [List.cons_append, rowsGo, rowsGo, rowsGo_snoc more true l r]
    simp
theorem rowsGo_length (more : Str) : ∀ (b : Bool) (l : List Str), (rowsGo more b l).length = l.length
  | _, [] => rfl
  | _, a :: l => by rw [rowsGo, List.length_cons, List.length_cons, rowsGo_length more true l]
theorem piecesGo_snoc (more : Str) : ∀ (b : Bool) (l : List Str) (r : Str), piecesGo more b (l ++ [r]) = piecesGo more b l ++ [pieceS more (b && l.isEmpty) r]
  | b, [], r => by simp [piecesGo]
  | b, a :: l, r => by
    rw [List.cons_append, piecesGo, piecesGo, piecesGo_snoc more false l r]
    simp
theorem piecesGo_length (more : Str) : ∀ (b : Bool) (l : List Str), (piecesGo more b l).length = l.length
  | _, [] => rfl
  | _, a :: l => by rw [piecesGo, List.length_cons, List.length_cons, piecesGo_length more false l]
theorem rowsGo_nil (more : Str) (b : Bool) (l : List Str) : decide (rowsGo more b l = []) = l.isEmpty := by cases l <;> simp [rowsGo]
theorem piecesGo_nil (more : Str) (b : Bool) (l : List Str) : decide (piecesGo more b l = []) = l.isEmpty := by cases l <;> simp [piecesGo]
theorem replace_len (x y z : Str) : (Txt.replace x y z).length ≤ x.length + (x.length + 1) * z.length := by
  unfold Txt.replace
  split
  · omega
  · have h1 := StrLaws.occ_length_le x y 0 x.length (x.length + 1)
    have hy : (glued y (partsBetween x (occurrences x y 0 x.length (x.length + 1)) y.length)).length = x.length := by rw [StrLaws.glued_between_self]
    rw [size_glued, length_partsBetween, Nat.add_sub_cancel] at hy
    rw [size_glued, length_partsBetween, Nat.add_sub_cancel]
    have h2 : (occurrences x y 0 x.length (x.length + 1)).length * z.length ≤ (x.length + 1) * z.length := Nat.mul_le_mul_right _ h1
    omega
theorem split_sumN (x : Str) : ((Txt.split x (Str.ofString "\n")).map (·.length)).sum + ((Txt.split x (Str.ofString "\n")).length - 1) = x.length := by
  have h1 := size_glued (Str.ofString "\n") (Txt.split x (Str.ofString "\n"))
  rw [StrLaws.glued_eq_join, StrLaws.join_split] at h1
  rw [h1, show (Str.ofString "\n").length = 1 from by decide, Nat.mul_one]
theorem norm1_len {x : Str} (h : x.length ≤ 500) : (Txt.replace x (Str.ofString "\x0d\n") (Str.ofString "\n")).length ≤ 1001 := by
  have := replace_len x (Str.ofString "\x0d\n") (Str.ofString "\n")
  rw [show (Str.ofString "\n").length = 1 from by decide, Nat.mul_one] at this
  omega
theorem norm2_len {x : Str} (h : x.length ≤ 500) : (Txt.replace (Txt.replace x (Str.ofString "\x0d\n") (Str.ofString "\n")) (Str.ofString "\x0d") (Str.ofString "\n")).length ≤ 2003 := by
  have := replace_len (Txt.replace x (Str.ofString "\x0d\n") (Str.ofString "\n")) (Str.ofString "\x0d") (Str.ofString "\n")
  rw [show (Str.ofString "\n").length = 1 from by decide, Nat.mul_one] at this
  have := norm1_len h
  omega
theorem norm_len {x : Str} (h : x.length ≤ 500) : ((norm x).map (·.length)).sum ≤ 2003 ∧ (norm x).length ≤ 2004 := by
  have := split_sumN (Txt.replace (Txt.replace x (Str.ofString "\x0d\n") (Str.ofString "\n")) (Str.ofString "\x0d") (Str.ofString "\n"))
  have h2 := norm2_len h
  unfold norm
  omega
theorem norm_mem_len {x r : Str} (h : x.length ≤ 500) (hr : r ∈ norm x) : r.length ≤ 2003 := Nat.le_trans (le_sum_of_mem (List.mem_map_of_mem (f := fun y : Str => y.length) hr)) (norm_len h).1
theorem rowS_len (more : Str) (b : Bool) (r : Str) : (rowS more b r).length ≤ r.length + more.length := by
  unfold rowS
  split
  · show (more.cps ++ r.cps).size ≤ r.cps.size + more.cps.size
    rw [Array.size_append]; omega
  · omega
theorem rowsGo_sum (more : Str) : ∀ (b : Bool) (l : List Str), ((rowsGo more b l).map (·.length)).sum ≤ (l.map (·.length)).sum + l.length * more.length
  | _, [] => by simp [rowsGo]
  | b, a :: l => by
    have h1 := rowS_len more b a
    have h2 := rowsGo_sum more true l
    simp only [rowsGo, List.map_cons, List.sum_cons, List.length_cons, Nat.succ_mul]
    omega
theorem rows_weight {x more : Str} (b : Bool) (h : x.length ≤ 500) (hm : more.length ≤ 1) : ((rowsGo more b (norm x)).map (·.length)).sum + (rowsGo more b (norm x)).length ≤ 1048576 := by
  have h1 := rowsGo_sum more b (norm x)
  have h2 := norm_len h
  rw [rowsGo_length]
  have h3 : (norm x).length * more.length ≤ (norm x).length * 1 := Nat.mul_le_mul_left _ hm
  omega
end Mine
end

noncomputable section
namespace Mine
open PySem PySem.W PyProof.Rows Builtin Builtin.Str
def frontS (more : Str) (x : Str) (r : List Str) : List Str := r.foldl (fun f p => lcp f (lawPieces p more)) (lawPieces x more)
theorem frontS_snoc (more x : Str) (r : List Str) (p : Str) : frontS more x (r ++ [p]) = lcp (frontS more x r) (lawPieces p more) := by
  unfold frontS
  rw [List.foldl_append]; rfl
theorem join_size (y : Str) (l : List Str) : (Txt.join y l).length = (l.map (·.length)).sum + (l.length - 1) * y.length := by
  show (Builtin.Str.glued y l).length = _
  exact size_glued y l
theorem pieceS_len {x more : Str} (b : Bool) (h : x.length ≤ 100) (hm : more.length ≤ 1) : (pieceS more b x).length ≤ 2000 := by
  have r1 := replace_len x (Str.ofString "\x0d\n") (Str.ofString "\n")
  rw [show (Str.ofString "\n").length = 1 from by decide, Nat.mul_one] at r1
  have r2 := replace_len (Txt.replace x (Str.ofString "\x0d\n") (Str.ofString "\n")) (Str.ofString "\x0d") (Str.ofString "\n")
  rw [show (Str.ofString "\n").length = 1 from by decide, Nat.mul_one] at r2
  have r3 := split_sumN (Txt.replace (Txt.replace x (Str.ofString "\x0d\n") (Str.ofString "\n")) (Str.ofString "\x0d") (Str.ofString "\n"))
  change ((norm x).map (·.length)).sum + ((norm x).length - 1) = _ at r3
  have r4 := rowsGo_sum more b (norm x)
  have r5 : (norm x).length * more.length ≤ (norm x).length * 1 := Nat.mul_le_mul_left _ hm
  unfold pieceS
  rw [join_size, rowsGo_length, show (Str.ofString "\x0d\n").length = 2 from by decide]
  omega
theorem piecesGo_mem {more : Str} (hm : more.length ≤ 1) : ∀ (l : List Str) (b : Bool), (∀ x ∈ l, x.length ≤ 100) → ∀ p ∈ piecesGo more b l, p.length ≤ 2000 := by
  intro l
  induction l with
  | nil => intro b _ p hp; cases hp
  | cons a l ih =>
    intro b h p hp
    rw [piecesGo] at hp
    rcases List.mem_cons.mp hp with e | hp
    · rw [e]; exact pieceS_len b (h a (.head _)) hm
    · exact ih false (fun x hx => h x (.tail _ hx)) p hp
theorem lawPieces_mem {x more : Str} (h : x.length ≤ 100) (hm : more.length ≤ 1) : ∀ p ∈ lawPieces x more, p.length ≤ 2000 := fun p hp =>
  piecesGo_mem hm _ true (fun y hy => Nat.le_trans (split_mem_len hy) h) p (List.mem_filter.mp hp).1
theorem lawPieces_len (x more : Str) : (lawPieces x more).length ≤ x.length + 1 := by
  unfold lawPieces
  refine Nat.le_trans (List.length_filter_le _ _) ?_
  rw [piecesGo_length]; exact split_len x
theorem foldl_lcp (more : Str) : ∀ (r : List Str) (f : List Str), (∀ c ∈ r.foldl (fun f p => lcp f (lawPieces p more)) f, c ∈ f) ∧ (r.foldl (fun f p => lcp f (lawPieces p more)) f).length ≤ f.length := by
  intro r
  induction r with
  | nil => intro f; exact ⟨fun c h => h, Nat.le_refl _⟩
  | cons p r ih =>
    intro f
    obtain ⟨h1, h2⟩ := ih (lcp f (lawPieces p more))
    exact ⟨fun c h => lcp_mem _ _ c (h1 c h), Nat.le_trans h2 (lcp_len _ _)⟩
theorem frontS_len (more x : Str) (r : List Str) : (frontS more x r).length ≤ x.length + 1 := Nat.le_trans (foldl_lcp more r _).2 (lawPieces_len x more)
theorem sum_le_mul {c : Nat} : ∀ l : List Str, (∀ x ∈ l, x.length ≤ c) → (l.map (·.length)).sum ≤ l.length * c := by
  intro l
  induction l with
  | nil => intro _; simp
  | cons a l ih =>
    intro h
    rw [List.map_cons, List.sum_cons, List.length_cons, Nat.succ_mul]
    have := h a (.head _)
    have := ih (fun x hx => h x (.tail _ hx))
    omega
theorem frontS_weight {x more : Str} (r : List Str) (h : x.length ≤ 100) (hm : more.length ≤ 1) : ((frontS more x r).map (·.length)).sum + (frontS more x r).length ≤ 1048576 := by
  have h1 := sum_le_mul (c := 2000) (frontS more x r) (fun c hc => lawPieces_mem h hm c ((foldl_lcp more r _).1 c hc))
  have h2 := frontS_len more x r
  have h3 : (frontS more x r).length * 2000 ≤ 101 * 2000 := Nat.mul_le_mul_right _ (by omega)
  omega
theorem frontS_join_len {x more : Str} (r : List Str) (h : x.length ≤ 100) (hm : more.length ≤ 1) : (Txt.join (Str.ofString "/") (frontS more x r)).length ≤ 300000 := by
  have h1 := sum_le_mul (c := 2000) (frontS more x r) (fun c hc => lawPieces_mem h hm c ((foldl_lcp more r _).1 c hc))
  have h2 := frontS_len more x r
  have h3 : (frontS more x r).length * 2000 ≤ 101 * 2000 := Nat.mul_le_mul_right _ (by omega)
  rw [join_size, show (Str.ofString "/").length = 1 from by decide]
  omega
end Mine
end

noncomputable section
namespace Mine
open PySem PySem.W PyProof.Rows Builtin Builtin.Str StrLaws
/-- lists joined by s -/
noncomputable def jn (s : List Nat) : List (List Nat) → List Nat
  | [] => []
  | [p] => p
  | p :: q :: r => p ++ (s ++ jn s (q :: r))
theorem lst_append (a b : Str) : lst (a ++ b) = lst a ++ lst b := by
  show (a.cps ++ b.cps).toList = _
  rw [Array.toList_append]; rfl
theorem lst_join (y : Str) : ∀ l : List Str, lst (Txt.join y l) = jn (lst y) (l.map lst) := by
  intro l
  show lst (glued y l) = _
  rw [glued_eq_join]
  induction l with
  | nil => rfl
  | cons p r ih =>
    cases r with
    | nil => rfl
    | cons q r =>
      show lst (p ++ y ++ PySem.Str.join y (q :: r)) = _
      rw [lst_append, lst_append, ih]
      show _ = lst p ++ (lst y ++ jn (lst y) ((q :: r).map lst))
      rw [List.append_assoc]
theorem split_ne (x y : Str) : Txt.split x y ≠ [] := by
  unfold Txt.split
  split
  · simp
  · split
    · simp
    · rw [partsBetween_eq]
      obtain ⟨p, r, e⟩ := partsFrom_ne x y.length 0 (occurrences x y 0 x.length (x.length + 1))
      rw [e]; simp
theorem app_inj {c : Nat} : ∀ {p q r t : List Nat}, c ∉ p → c ∉ q → p ++ c :: r = q ++ c :: t → p = q ∧ r = t
  | [], [], r, t, _, _, h => by simpa using h
  | [], b :: q, r, t, _, h2, h => by
    simp only [List.nil_append, List.cons_append, List.cons.injEq] at h
    exact absurd (by rw [h.1]; exact .head _) h2
  | a :: p, [], r, t, h1, _, h => by
    simp only [List.nil_append, List.cons_append, List.cons.injEq] at h
    exact absurd (by rw [h.1]; exact .head _) h1
  | a :: p, b :: q, r, t, h1, h2, h => by
    simp only [List.cons_append, List.cons.injEq] at h
    obtain ⟨e1, e2⟩ := app_inj (fun m => h1 (.tail _ m)) (fun m => h2 (.tail _ m)) h.2
    exact ⟨by rw [h.1, e1], e2⟩
theorem jn_inj (c : Nat) : ∀ {P Q : List (List Nat)}, P ≠ [] → Q ≠ [] → (∀ p ∈ P, c ∉ p) → (∀ p ∈ Q, c ∉ p) → jn [c] P = jn [c] Q → P = Q
  | [], _, h, _, _, _, _ => absurd rfl h
  | _, [], _, h, _, _, _ => absurd rfl h
  | [p], [q], _, _, _, _, h => by rw [show p = q from h]
  | [p], q :: q' :: t, _, _, h1, _, h => by
    have h' : p = q ++ ([c] ++ jn [c] (q' :: t)) := h
    exact absurd (by rw [h']; simp) (h1 p (.head _))
  | p :: p' :: r, [q], _, _, _, h2, h => by
    have h' : p ++ ([c] ++ jn [c] (p' :: r)) = q := h
    exact absurd (by rw [← h']; simp) (h2 q (.head _))
  | p :: p' :: r, q :: q' :: t, _, _, h1, h2, h => by
    have h' : p ++ c :: jn [c] (p' :: r) = q ++ c :: jn [c] (q' :: t) := h
    obtain ⟨e1, e2⟩ := app_inj (h1 p (.head _)) (h2 q (.head _)) h'
    rw [e1, jn_inj c (by simp) (by simp) (fun a ha => h1 a (.tail _ ha)) (fun a ha => h2 a (.tail _ ha)) e2]
/-- the pieces of a text, as lists -/
def pcs (c : Nat) (x : Str) : List (List Nat) := (Txt.split x ⟨#[c]⟩).map lst
theorem pcs_ne (c : Nat) (x : Str) : pcs c x ≠ [] := by
  unfold pcs; intro h
  exact split_ne x _ (List.map_eq_nil_iff.mp h)
theorem pcs_free (c : Nat) (x : Str) : ∀ p ∈ pcs c x, c ∉ p := by
  intro p hp
  obtain ⟨q, hq, rfl⟩ := List.mem_map.mp hp
  exact split_free x c q hq
theorem jn_pcs (c : Nat) (x : Str) : jn [c] (pcs c x) = lst x := by
  have h := join_split x ⟨#[c]⟩
  rw [← glued_eq_join] at h
  have h2 := lst_join ⟨#[c]⟩ (Txt.split x ⟨#[c]⟩)
  rw [show Txt.join ⟨#[c]⟩ (Txt.split x ⟨#[c]⟩) = x from h] at h2
  exact h2.symm
theorem pcs_unique {c : Nat} {x : Str} {P : List (List Nat)} (h0 : P ≠ []) (h1 : ∀ p ∈ P, c ∉ p) (h2 : lst x = jn [c] P) : pcs c x = P :=
  jn_inj c (pcs_ne c x) h0 (pcs_free c x) h1 (by rw [jn_pcs, h2])
theorem split_of_pcs {c : Nat} {x : Str} {P : List (List Nat)} (h : pcs c x = P) : Txt.split x ⟨#[c]⟩ = P.map mkS := by
  rw [← h]
  unfold pcs
  rw [List.map_map, show mkS ∘ lst = _root_.id from funext mkS_lst, List.map_id]
theorem fix_slash : ∀ (p r : List Nat), fix (p ++ 47 :: r) = fix p ++ 47 :: fix r := by
  intro p r
  fun_induction fix p with
  | case1 => rw [List.nil_append, List.nil_append]; exact fix_other (by decide) (by decide)
  | case2 t ih => rw [List.cons_append, List.cons_append, fix_two, ih]; rfl
  | case3 c t h1 h2 ih =>
    rw [List.cons_append, fix_eol h2, ih]
    · rfl
    · rintro ⟨rfl, q⟩
      cases t with
      | nil => simp at q
      | cons a t => simp at q; subst q; exact h1 t rfl rfl
  | case4 c t h1 h2 ih =>
    rw [List.cons_append, fix_other (fun e => h2 (.inl e)) (fun e => h2 (.inr e)), ih]; rfl
theorem fix_jn : ∀ P : List (List Nat), fix (jn [47] P) = jn [47] (P.map fix)
  | [] => rfl
  | [p] => rfl
  | p :: q :: r => by
    show fix (p ++ 47 :: jn [47] (q :: r)) = fix p ++ 47 :: jn [47] ((q :: r).map fix)
    rw [fix_slash, fix_jn (q :: r)]
theorem fix_free {c : Nat} (h1 : c ≠ 10) (h2 : c ≠ 13) (p : List Nat) : c ∉ p → c ∉ fix p := by
  fun_induction fix p with
  | case1 => exact id
  | case2 t ih => intro h q; simp [h1, h2] at q; exact ih (fun m => h (.tail _ (.tail _ m))) q
  | case3 a t _ _ ih => intro h q; simp [h1, h2] at q; exact ih (fun m => h (.tail _ m)) q
  | case4 a t _ _ ih =>
    intro h q
    rcases List.mem_cons.mp q with e | q
    · exact h (by rw [e]; exact .head _)
    · exact ih (fun m => h (.tail _ m)) q
/-- stuff, piece by piece -/
noncomputable def stuffGo : Bool → List (List Nat) → List (List Nat)
  | _, [] => []
  | b, p :: t => stuff b p :: stuffGo false t
theorem stuff_slash : ∀ (p r : List Nat) (b : Bool), stuff b (p ++ 47 :: r) = stuff b p ++ 47 :: stuff false r
  | [], r, b => by
    show stuff b (47 :: r) = 47 :: stuff false r
    rw [stuff.eq_2, if_neg (by rintro ⟨_, h⟩; exact absurd h (by decide))]
    rfl
  | c :: p, r, b => by
    rw [List.cons_append, stuff, stuff, stuff_slash p r, stuff_slash p r]
    split <;> rfl
theorem stuff_jn : ∀ (P : List (List Nat)) (b : Bool), stuff b (jn [47] P) = jn [47] (stuffGo b P)
  | [], b => by cases b <;> rfl
  | [p], b => rfl
  | p :: q :: r, b => by
    show stuff b (p ++ 47 :: jn [47] (q :: r)) = stuff b p ++ 47 :: jn [47] (stuffGo false (q :: r))
    rw [stuff_slash, stuff_jn (q :: r)]
theorem stuff_free {c : Nat} (h1 : c ≠ 46) : ∀ (p : List Nat) (b : Bool), c ∉ p → c ∉ stuff b p
  | [], b, _ => by simp [stuff]
  | a :: p, b, h => by
    have ih := fun b => stuff_free h1 p b (fun m => h (.tail _ m))
    have ha : c ≠ a := fun e => h (by rw [e]; exact .head _)
    rw [stuff]
    split
    · simp [h1, ih]
    · simp [ha, ih]
theorem stuffGo_mem : ∀ (P : List (List Nat)) (b : Bool) (p : List Nat), p ∈ stuffGo b P → ∃ q ∈ P, ∃ b', p = stuff b' q
  | [], _, _, h => by simp [stuffGo] at h
  | q :: P, b, p, h => by
    rw [stuffGo] at h
    rcases List.mem_cons.mp h with rfl | h
    · exact ⟨q, .head _, b, rfl⟩
    · obtain ⟨q', hq, b', e⟩ := stuffGo_mem P false p h
      exact ⟨q', .tail _ hq, b', e⟩
theorem stuffGo_ne {P : List (List Nat)} (b : Bool) (h : P ≠ []) : stuffGo b P ≠ [] := by
  cases P with
  | nil => exact absurd rfl h
  | cons p P => simp [stuffGo]
theorem pcs_fix (x : Str) : pcs 47 (mkS (fix (lst x))) = (pcs 47 x).map fix := by
  refine pcs_unique (by simp [pcs_ne]) (fun p hp => ?_) ?_
  · obtain ⟨q, hq, rfl⟩ := List.mem_map.mp hp
    exact fix_free (by decide) (by decide) q (pcs_free 47 x q hq)
  · rw [lst_mkS, ← fix_jn, jn_pcs]
theorem pcs_stuff (x : Str) (b : Bool) : pcs 47 (mkS (stuff b (fix (lst x)))) = stuffGo b ((pcs 47 x).map fix) := by
  have h0 : (pcs 47 x).map fix ≠ [] := by simp [pcs_ne]
  refine pcs_unique (stuffGo_ne b h0) (fun p hp => ?_) ?_
  · obtain ⟨q, hq, b', rfl⟩ := stuffGo_mem _ _ _ hp
    obtain ⟨r, hr, rfl⟩ := List.mem_map.mp hq
    exact stuff_free (by decide) _ _ (fix_free (by decide) (by decide) r (pcs_free 47 x r hr))
  · rw [lst_mkS, ← stuff_jn, ← fix_jn, jn_pcs]
/-- a pair of return and feed to a feed -/
noncomputable def r1 : List Nat → List Nat
  | [] => []
  | 13 :: 10 :: r => 10 :: r1 r
  | c :: r => c :: r1 r
theorem r1_two (r : List Nat) : r1 (13 :: 10 :: r) = 10 :: r1 r := by rw [r1]
theorem r1_one {c : Nat} {r : List Nat} (h : ¬ (c = 13 ∧ r.head? = some 10)) : r1 (c :: r) = c :: r1 r := by
  rw [r1.eq_3]
  rintro r' rfl rfl
  exact h ⟨rfl, rfl⟩
theorem at_two {x : Str} {k : Nat} (h : ¬ At x (Str.ofString "\x0d\n") x.length k) {c : Nat} {r : List Nat} (e : (lst x).drop k = c :: r) : ¬ (c = 13 ∧ r.head? = some 10) := by
  rintro ⟨rfl, h2⟩
  cases r with
  | nil => simp at h2
  | cons d r =>
    simp at h2
    subst h2
    apply h
    have hl : ((lst x).drop k).length = (13 :: 10 :: r).length := by rw [e]
    rw [List.length_drop] at hl
    have hx : (lst x).length = x.length := by simp [lst, Str.length]
    refine ⟨?_, ?_⟩
    · rw [show (Str.ofString "\x0d\n").length = 2 from by decide]
      simp at hl; omega
    · rw [subAt_eq]
      change ((lst x).drop k).take _ == _
      rw [e]; rfl
theorem r1_skip (x : Str) : ∀ (n a : Nat), a + n ≤ x.length → (∀ k, a ≤ k → k < a + n → ¬ At x (Str.ofString "\x0d\n") x.length k) → r1 ((lst x).drop a) = ((lst x).drop a).take n ++ r1 ((lst x).drop (a + n))
  | 0, a, _, _ => by simp
  | n + 1, a, h, hn => by
    have hx : (lst x).length = x.length := by simp [lst, Str.length]
    have hlt : a < (lst x).length := by omega
    have e := List.drop_eq_getElem_cons hlt
    rw [e, r1_one (at_two (hn a (Nat.le_refl _) (by omega)) e), r1_skip x n (a + 1) (by omega) (fun k h1 h2 => hn k (by omega) (by omega)), List.take_succ_cons, List.cons_append, show a + 1 + n = a + (n + 1) from by omega]
theorem r1_parts (x : Str) : ∀ (cuts : List Nat) (a f : Nat), a ≤ x.length → ChainG x (Str.ofString "\x0d\n") x.length a cuts f → (∀ k, f ≤ k → ¬ At x (Str.ofString "\x0d\n") x.length k) → jn [10] ((partsFrom x 2 a cuts).map lst) = r1 ((lst x).drop a)
  | [], a, f, ha, h, hn => by
    have e : f = a := h
    subst e
    have hx : (lst x).length = x.length := by simp [lst, Str.length]
    have hf : f ≤ x.length := ha
    rw [r1_skip x (x.length - f) f (by omega) (fun k h1 _ => hn k h1)]
    show lst (strSub x f x.length) = _
    rw [show f + (x.length - f) = x.length from by omega, show (lst x).drop x.length = [] from List.drop_eq_nil_of_le (by omega), r1, List.append_nil]
    exact strSub_toList x f x.length
  | d :: r, a, f, ha, h, hn => by
    obtain ⟨h1, h2, h3, h4⟩ := h
    rw [show (Str.ofString "\x0d\n").length = 2 from by decide] at h4
    have hb : d + 2 ≤ x.length := h2.1
    have ih := r1_parts x r (d + 2) f hb h4 hn
    obtain ⟨p, q, e⟩ := partsFrom_ne x 2 (d + 2) r
    have hx : (lst x).length = x.length := by simp [lst, Str.length]
    rw [r1_skip x (d - a) a (by omega) (fun k k1 k2 => h3 k k1 (by omega)), show a + (d - a) = d from by omega]
    have hd : (lst x).drop d = 13 :: 10 :: (lst x).drop (d + 2) := by
      have h5 := h2.2
      rw [subAt_eq] at h5
      have h6 : ((lst x).drop d).take 2 = [13, 10] := eq_of_beq h5
      have h7 := List.take_append_drop 2 ((lst x).drop d)
      rw [h6, List.drop_drop] at h7
      exact h7.symm
    rw [hd, r1_two, ← ih]
    show jn [10] ((strSub x a d :: partsFrom x 2 (d + 2) r).map lst) = _
    rw [e]
    show lst (strSub x a d) ++ ([10] ++ jn [10] ((p :: q).map lst)) = _
    rw [show lst (strSub x a d) = ((lst x).drop a).take (d - a) from strSub_toList x a d]
    rfl
theorem replace_two (x : Str) : lst (Txt.replace x (Str.ofString "\x0d\n") (Str.ofString "\n")) = r1 (lst x) := by
  obtain ⟨f, hG, hn⟩ := occ_tight x (Str.ofString "\x0d\n") (by decide)
  have key := r1_parts x _ 0 f (Nat.zero_le _) hG hn
  rw [List.drop_zero] at key
  unfold Txt.replace
  split
  · rename_i h
    have : (occurrences x (Str.ofString "\x0d\n") 0 x.length (x.length + 1)) = [] := by
      rw [Bool.or_eq_true] at h
      rcases h with h | h
      · exact List.isEmpty_iff.mp h
      · exact absurd h (by decide)
    rw [this] at key
    rw [← key]
    show lst x = lst (strSub x 0 x.length)
    rw [sub_whole]
  · rw [partsBetween_eq]
    show lst (Txt.join _ _) = _
    rw [lst_join]
    exact key
end Mine
end

noncomputable section
namespace Mine
open PySem PySem.W PyProof.Rows Builtin Builtin.Str StrLaws
theorem lst_length (x : Str) : (lst x).length = x.length := by simp [lst, Str.length]
theorem head_slice (x : Str) : lst (Txt.slice x none (some 1)) = (lst x).take 1 := by
  have hx := lst_length x
  have e : strSliceIndices none (some 1) 1 x.length = (List.range (min 1 x.length)).map (fun k => 0 + k) := by
    have h0 := strSliceIndices_plain (a := 0) (b := min 1 x.length) (len := x.length) (Nat.zero_le _) (Nat.min_le_right _ _)
    rw [Nat.sub_zero] at h0
    rw [← h0]
    unfold strSliceIndices
    simp only [show ((1 : Int) > 0) = True from by simp, if_true, show ¬ ((1 : Int) < 0) from by decide, if_false]
    have h1 : ¬ (((0 : Nat) : Int) < 0) := by decide
    have h2 : ¬ (((min 1 x.length : Nat) : Int) < 0) := by omega
    rw [if_neg h1, if_neg h2]
    congr 1 <;> omega
  unfold Txt.slice
  rw [e]
  split
  · rename_i h
    simp at h
    rw [List.take_of_length_le (by omega)]
  · show List.filterMap (x.cps[·]?) _ = _
    rcases Nat.eq_zero_or_pos x.length with h | h
    · rw [h]; simp [List.eq_nil_of_length_eq_zero (hx.trans h)]
    · have hm : min 1 x.length = 1 := by omega
      rw [hm]
      obtain ⟨a, r, e2⟩ : ∃ a r, lst x = a :: r := by
        cases hl : lst x with
        | nil => rw [hl] at hx; simp at hx; omega
        | cons a r => exact ⟨a, r, rfl⟩
      have e3 : x.cps[0]? = some a := by
        have : x.cps.toList[0]? = some a := by change (lst x)[0]? = _; rw [e2]; rfl
        simpa using this
      rw [e2]
      simp [List.range_succ, e3]
theorem beq_lst (x y : Str) : (x == y) = (lst x == lst y) := by
  rw [Bool.eq_iff_iff, beq_iff_eq, beq_iff_eq]
  exact ⟨fun h => by rw [h], lst_inj⟩
theorem head_is (x : Str) (c : Nat) : (Txt.slice x none (some 1) == (⟨#[c]⟩ : Str)) = decide ((lst x).head? = some c) := by
  rw [beq_lst, head_slice, Bool.eq_iff_iff, beq_iff_eq, decide_eq_true_eq]
  show _ = [c] ↔ _
  cases lst x with
  | nil => simp
  | cons a r => simp
def r2 (l : List Nat) : List Nat := l.map fun c => if c = 13 then 10 else c
theorem r2_free {l : List Nat} (h : 13 ∉ l) : r2 l = l := by
  induction l with
  | nil => rfl
  | cons a l ih =>
    show (if a = 13 then 10 else a) :: r2 l = _
    rw [if_neg (fun e => h (by rw [e]; exact .head _)), ih (fun m => h (.tail _ m))]
theorem r2_jn : ∀ P : List (List Nat), (∀ p ∈ P, 13 ∉ p) → r2 (jn [13] P) = jn [10] P
  | [], _ => rfl
  | [p], h => r2_free (h p (.head _))
  | p :: q :: r, h => by
    show r2 (p ++ 13 :: jn [13] (q :: r)) = p ++ 10 :: jn [10] (q :: r)
    rw [← r2_jn (q :: r) (fun a ha => h a (.tail _ ha))]
    unfold r2
    rw [List.map_append]
    have := r2_free (h p (.head _))
    unfold r2 at this
    rw [this]; rfl
theorem replace_ret (x : Str) : lst (Txt.replace x (Str.ofString "\x0d") (Str.ofString "\n")) = r2 (lst x) := by
  have h := replace_one x (Str.ofString "\n") 13
  rw [← glued_eq_join] at h
  have h2 := lst_join (Str.ofString "\n") (Txt.split x ⟨#[13]⟩)
  rw [show Txt.join (Str.ofString "\n") (Txt.split x ⟨#[13]⟩) = Txt.replace x ⟨#[13]⟩ (Str.ofString "\n") from h.symm] at h2
  rw [← jn_pcs 13 x, r2_jn _ (pcs_free 13 x)]
  exact h2
noncomputable def ex : List Nat → List Nat
  | [] => []
  | c :: r => if c = 10 then 13 :: 10 :: ex r else c :: ex r
theorem ex_append : ∀ a b : List Nat, ex (a ++ b) = ex a ++ ex b
  | [], _ => rfl
  | c :: a, b => by
    rw [List.cons_append, ex, ex, ex_append a b]
    split <;> rfl
theorem ex_free : ∀ {l : List Nat}, 10 ∉ l → ex l = l
  | [], _ => rfl
  | a :: l, h => by
    rw [ex, if_neg (fun e => h (by rw [e]; exact .head _)), ex_free (fun m => h (.tail _ m))]
theorem ex_jn : ∀ P : List (List Nat), (∀ p ∈ P, 10 ∉ p) → ex (jn [10] P) = jn [13, 10] P
  | [], _ => rfl
  | [p], h => ex_free (h p (.head _))
  | p :: q :: r, h => by
    show ex (p ++ 10 :: jn [10] (q :: r)) = p ++ 13 :: 10 :: jn [13, 10] (q :: r)
    rw [← ex_jn (q :: r) (fun a ha => h a (.tail _ ha)), ex_append, ex_free (h p (.head _)), ex, if_pos rfl]
theorem fix_ex : ∀ l : List Nat, fix l = ex (r2 (r1 l)) := by
  intro l
  fun_induction fix l with
  | case1 => rfl
  | case2 r ih =>
    rw [r1_two, ih]
    show _ = ex ((if 10 = 13 then 10 else 10) :: r2 (r1 r))
    rfl
  | case3 c r h1 h2 ih =>
    rw [r1_one (by rintro ⟨e1, e2⟩; cases r with
      | nil => simp at e2
      | cons a r => simp at e2; subst e2; exact h1 r e1 rfl), ih]
    show _ = ex ((if c = 13 then 10 else c) :: r2 (r1 r))
    have : (if c = 13 then 10 else c) = 10 := by rcases h2 with e | e <;> rw [e] <;> rfl
    rw [this, ex, if_pos rfl]
  | case4 c r h1 h2 ih =>
    rw [r1_one (by rintro ⟨e1, e2⟩; exact h2 (.inr e1)), ih]
    show _ = ex ((if c = 13 then 10 else c) :: r2 (r1 r))
    rw [if_neg (fun e => h2 (.inr e)), ex, if_neg (fun e => h2 (.inl e))]
/-- the rows of a piece -/
def rws (x : Str) : List (List Nat) := (norm x).map lst
theorem rws_free (x : Str) : ∀ p ∈ rws x, 10 ∉ p := pcs_free 10 _
theorem rws_ne (x : Str) : rws x ≠ [] := pcs_ne 10 _
theorem jn_rws (x : Str) : jn [13, 10] (rws x) = fix (lst x) := by
  rw [← ex_jn _ (rws_free x)]
  have h := jn_pcs 10 (Txt.replace (Txt.replace x (Str.ofString "\x0d\n") (Str.ofString "\n")) (Str.ofString "\x0d") (Str.ofString "\n"))
  rw [replace_ret, replace_two] at h
  rw [show jn [10] (rws x) = r2 (r1 (lst x)) from h, fix_ex]
def rowL (b : Bool) (r : List Nat) : List Nat := if b = true ∧ r.head? = some 46 then 46 :: r else r
noncomputable def rowsL : Bool → List (List Nat) → List (List Nat)
  | _, [] => []
  | b, r :: t => rowL b r :: rowsL true t
theorem lst_rowS (b : Bool) (r : Str) : lst (rowS (Str.ofString ".") b r) = rowL b (lst r) := by
  unfold rowS rowL
  rw [show (Txt.slice r none (some 1) == Str.ofString ".") = decide ((lst r).head? = some 46) from head_is r 46]
  simp only [decide_eq_true_eq]
  split
  · rw [lst_append]; rfl
  · rfl
theorem lst_rowS0 (b : Bool) (r : Str) : lst (rowS (Str.ofString "") b r) = lst r := by
  unfold rowS
  split
  · rw [lst_append]; rfl
  · rfl
theorem lst_rowsGo : ∀ (b : Bool) (l : List Str), (rowsGo (Str.ofString ".") b l).map lst = rowsL b (l.map lst)
  | _, [] => rfl
  | b, r :: t => by
    rw [rowsGo, List.map_cons, lst_rowS, lst_rowsGo true t]; rfl
theorem lst_rowsGo0 : ∀ (b : Bool) (l : List Str), (rowsGo (Str.ofString "") b l).map lst = l.map lst
  | _, [] => rfl
  | b, r :: t => by
    rw [rowsGo, List.map_cons, lst_rowS0, lst_rowsGo0 true t]; rfl
theorem stuff_row0 : ∀ (r : List Nat), 10 ∉ r → stuff false r = r
  | [], _ => rfl
  | c :: r, h => by
    rw [stuff, if_neg (by rintro ⟨q, _⟩; cases q)]
    have hc : (c == 10) = false := by simpa using fun e => h (by rw [e]; exact .head _)
    rw [hc, stuff_row0 r (fun m => h (.tail _ m))]
theorem stuff_row (b : Bool) (r : List Nat) (h : 10 ∉ r) : stuff b r = rowL b r := by
  unfold rowL
  cases r with
  | nil => simp [stuff]
  | cons c r =>
    have hc : (c == 10) = false := by simpa using fun e => h (by rw [e]; exact .head _)
    rw [stuff, hc, stuff_row0 r (fun m => h (.tail _ m))]
    simp only [List.head?_cons, Option.some.injEq]
    split
    · rename_i h; rw [h.2]
    · rfl
theorem stuff_eol : ∀ (p r : List Nat) (b : Bool), 10 ∉ p → stuff b (p ++ 13 :: 10 :: r) = stuff b p ++ 13 :: 10 :: stuff true r
  | [], r, b, _ => by
    show stuff b (13 :: 10 :: r) = 13 :: 10 :: stuff true r
    rw [stuff.eq_2, if_neg (by rintro ⟨_, h⟩; exact absurd h (by decide)), stuff.eq_2, if_neg (by rintro ⟨_, h⟩; exact absurd h (by decide))]
    rfl
  | c :: p, r, b, h => by
    have hp : 10 ∉ p := fun m => h (.tail _ m)
    rw [List.cons_append, stuff, stuff, stuff_eol p r _ hp, stuff_eol p r _ hp]
    split <;> rfl
theorem stuff_rows : ∀ (P : List (List Nat)) (b : Bool), (∀ p ∈ P, 10 ∉ p) → stuff b (jn [13, 10] P) = jn [13, 10] (rowsL b P)
  | [], b, _ => by cases b <;> rfl
  | [p], b, h => stuff_row b p (h p (.head _))
  | p :: q :: r, b, h => by
    show stuff b (p ++ 13 :: 10 :: jn [13, 10] (q :: r)) = rowL b p ++ 13 :: 10 :: jn [13, 10] (rowsL true (q :: r))
    rw [stuff_eol _ _ _ (h p (.head _)), stuff_rows (q :: r) true (fun a ha => h a (.tail _ ha)), stuff_row b p (h p (.head _))]
theorem lst_pieceS0 (b : Bool) (x : Str) : lst (pieceS (Str.ofString "") b x) = fix (lst x) := by
  unfold pieceS
  rw [lst_join, lst_rowsGo0, ← jn_rws]; rfl
theorem lst_pieceS1 (b : Bool) (x : Str) : lst (pieceS (Str.ofString ".") b x) = stuff b (fix (lst x)) := by
  unfold pieceS
  rw [lst_join, lst_rowsGo, ← jn_rws, stuff_rows _ _ (rws_free x)]; rfl
theorem lst_piecesGo0 : ∀ (b : Bool) (l : List Str), (piecesGo (Str.ofString "") b l).map lst = (l.map lst).map fix
  | _, [] => rfl
  | b, r :: t => by
    rw [piecesGo, List.map_cons, lst_pieceS0, lst_piecesGo0 false t]; rfl
theorem lst_piecesGo1 : ∀ (b : Bool) (l : List Str), (piecesGo (Str.ofString ".") b l).map lst = stuffGo b ((l.map lst).map fix)
  | _, [] => rfl
  | b, r :: t => by
    rw [piecesGo, List.map_cons, lst_pieceS1, lst_piecesGo1 false t]; rfl
def keepS (p : Str) : Bool := !(p == Str.ofString "" || p == Str.ofString ".")
def keepL (p : List Nat) : Bool := !(p == [] || p == [46])
theorem keepS_lst (p : Str) : keepS p = keepL (lst p) := by
  unfold keepS keepL
  rw [beq_lst, beq_lst]; rfl
theorem partsS_eq (x : Str) : partsS x = (Txt.split x (Str.ofString "/")).filter keepS := by
  unfold partsS
  congr 1
  funext c
  unfold keepS
  rw [show (c == Str.ofString "") = (c.length == 0) from ?_, Bool.not_or]; rfl
  rw [beq_lst, Bool.eq_iff_iff, beq_iff_eq, beq_iff_eq, ← lst_length]
  show _ = [] ↔ _
  rw [List.length_eq_zero_iff]
theorem map_lst_inj {a b : List Str} (h : a.map lst = b.map lst) : a = b := by
  have := congrArg (List.map mkS) h
  rw [List.map_map, List.map_map, show mkS ∘ lst = _root_.id from funext mkS_lst, List.map_id, List.map_id] at this
  exact this
theorem partsS_fix (x : Str) : partsS (mkS (fix (lst x))) = lawPieces x (Str.ofString "") := by
  rw [partsS_eq]
  unfold lawPieces
  show _ = List.filter keepS _
  congr 1
  apply map_lst_inj
  rw [lst_piecesGo0]
  exact pcs_fix x
theorem partsS_stuff (x : Str) : partsS (mkS (stuff true (fix (lst x)))) = lawPieces x (Str.ofString ".") := by
  rw [partsS_eq]
  unfold lawPieces
  show _ = List.filter keepS _
  congr 1
  apply map_lst_inj
  rw [lst_piecesGo1]
  exact pcs_stuff x true
end Mine
end

noncomputable section
namespace Mine
open PySem PySem.W PyProof.Rows Builtin Builtin.Str StrLaws
theorem lcp_left : ∀ a b : List Str, lcp a b <+: a
  | [], _ => by simp [lcp]
  | x :: a, [] => by simp [lcp]
  | x :: a, y :: b => by
    rw [lcp]
    split
    · exact List.cons_prefix_cons.mpr ⟨rfl, lcp_left a b⟩
    · exact List.nil_prefix
theorem lcp_right : ∀ a b : List Str, lcp a b <+: b
  | [], _ => by simp [lcp]
  | x :: a, [] => by simp [lcp]
  | x :: a, y :: b => by
    rw [lcp]
    split
    · rename_i h
      exact List.cons_prefix_cons.mpr ⟨h, lcp_right a b⟩
    · exact List.nil_prefix
theorem lcp_great : ∀ p a b : List Str, p <+: a → p <+: b → p <+: lcp a b
  | [], _, _, _, _ => List.nil_prefix
  | q :: p, [], _, h, _ => by simp at h
  | q :: p, _ :: _, [], _, h => by simp at h
  | q :: p, x :: a, y :: b, h1, h2 => by
    obtain ⟨e1, h1⟩ := List.cons_prefix_cons.mp h1
    obtain ⟨e2, h2⟩ := List.cons_prefix_cons.mp h2
    rw [lcp, if_pos (by rw [← e1, ← e2])]
    exact List.cons_prefix_cons.mpr ⟨e1, lcp_great p a b h1 h2⟩
theorem between : ∀ (p a l b : List Str), p <+: a → p <+: b → ltL l a = false → ltL b l = false → p <+: l
  | [], _, _, _, _, _, _, _ => List.nil_prefix
  | q :: p, [], _, _, h, _, _, _ => by simp at h
  | q :: p, _ :: _, _, [], _, h, _, _ => by simp at h
  | q :: p, x :: a, [], y :: b, _, _, h, _ => by simp [ltL] at h
  | q :: p, x :: a, z :: l, y :: b, h1, h2, h3, h4 => by
    obtain ⟨e1, k1⟩ := List.cons_prefix_cons.mp h1
    obtain ⟨e2, k2⟩ := List.cons_prefix_cons.mp h2
    clear h1 h2
    subst e1
    subst e2
    rw [ltL] at h3 h4
    by_cases e : z = q
    · subst e
      rw [if_pos rfl] at h3 h4
      exact List.cons_prefix_cons.mpr ⟨rfl, between p a l b k1 k2 h3 h4⟩
    · rw [if_neg e] at h3
      rw [if_neg (fun h => e h.symm)] at h4
      exact absurd (ltS_tri h3 h4) e
/-- the common pieces of several -/
def lcpAll : List (List Str) → List Str
  | [] => []
  | l :: r => r.foldl lcp l
theorem foldl_pre : ∀ (r : List (List Str)) (f : List Str), r.foldl lcp f <+: f ∧ ∀ l ∈ r, r.foldl lcp f <+: l
  | [], f => ⟨List.prefix_refl _, fun l h => by cases h⟩
  | a :: r, f => by
    obtain ⟨h1, h2⟩ := foldl_pre r (lcp f a)
    refine ⟨h1.trans (lcp_left _ _), fun l hl => ?_⟩
    rcases List.mem_cons.mp hl with rfl | hl
    · exact h1.trans (lcp_right _ _)
    · exact h2 l hl
theorem foldl_great : ∀ (r : List (List Str)) (f p : List Str), p <+: f → (∀ l ∈ r, p <+: l) → p <+: r.foldl lcp f
  | [], _, _, h, _ => h
  | a :: r, f, p, h, h2 => foldl_great r (lcp f a) p (lcp_great _ _ _ h (h2 a (.head _))) (fun l hl => h2 l (.tail _ hl))
theorem lcpAll_pre {L : List (List Str)} : ∀ l ∈ L, lcpAll L <+: l := by
  cases L with
  | nil => intro l h; cases h
  | cons a r =>
    intro l h
    rcases List.mem_cons.mp h with rfl | h
    · exact (foldl_pre r l).1
    · exact (foldl_pre r a).2 l h
theorem lcpAll_great {L : List (List Str)} (h0 : L ≠ []) {p : List Str} (h : ∀ l ∈ L, p <+: l) : p <+: lcpAll L := by
  cases L with
  | nil => exact absurd rfl h0
  | cons a r => exact foldl_great r a p (h a (.head _)) (fun l hl => h l (.tail _ hl))
theorem prefix_antisymm {a b : List Str} (h1 : a <+: b) (h2 : b <+: a) : a = b :=
  h1.eq_of_length (Nat.le_antisymm h1.length_le h2.length_le)
theorem lcp_minmax {L : List (List Str)} (h0 : L ≠ []) : lcp (minP L) (maxP L) = lcpAll L := by
  refine prefix_antisymm (lcpAll_great h0 fun l hl => ?_) (lcp_great _ _ _ (lcpAll_pre _ (minP_mem h0)) (lcpAll_pre _ (maxP_mem h0)))
  exact between _ (minP L) l (maxP L) (lcp_left _ _) (lcp_right _ _) (minP_le hl) (maxP_ge hl)
theorem lcpAll_unique {L : List (List Str)} (h0 : L ≠ []) {p : List Str} (h1 : ∀ l ∈ L, p <+: l) (h2 : ∀ q : List Str, (∀ l ∈ L, q <+: l) → q <+: p) : lcpAll L = p :=
  prefix_antisymm (h2 _ lcpAll_pre) (lcpAll_great h0 h1)
theorem frontS_all (more x : Str) (r : List Str) : frontS more x r = lcpAll ((x :: r).map (fun p => lawPieces p more)) := by
  unfold frontS
  show _ = List.foldl lcp _ _
  rw [List.foldl_map]
end Mine
end

noncomputable section
set_option maxRecDepth 100000
namespace Mine
open PySem PySem.W PyProof.Rows PySem.Calls
theorem unchain_none {prog : Program} {w : World} {A : Around} {E : Value → Shared → Prop} {s : Shared} {e h : Addr} {oh : Obj} {vs : Array Value} {Q : Value → Shared → Prop} (ho : s.heap.get? h = some oh) (hd : oh.data = .fields vs) (h2 : vs[2]? = some .none)
    (k : Q .none s) : wpAny (model prog w) A (runValue (.builtin "proto.unchain" ⟨[.ref e, .ref h, .ref h, .bool false], []⟩)) Q E s := by
  refine wpAny_runValue (codeAny_builtin (entryFor_of_tree (by kernel_rfl) : entryFor table "proto.unchain" = some Builtin.«proto.unchain») ?_)
  unfold Builtin.«proto.unchain»
  refine wpAny_bind (wpAny_field ho hd h2 ?_)
  rw [if_pos (by decide)]
  exact wpAny_pure k
section
variable {prog : Program} {w : World} {A : Around} {E : Value → Shared → Prop} {s : Shared} {env : Env}
set_option maxHeartbeats 4000000 in
theorem raiseStmt_from {cls : String} (F : ExcRaiseFacts cls) {x c : Sem Value} {h : Addr} {Q : Flow → Shared → Prop} (hh : A.handled = some (.ref h))
    (hx : wpAny (model prog w) A x (fun v s₁ => ∃ e t, v = .ref e ∧ e ≠ h ∧ s₁.heap.get? e = some { cls := .type cls, data := .fields #[.ref t, .none, .none, .none, .bool false, .none] } ∧
      (∃ oh vs, s₁.heap.get? h = some oh ∧ oh.data = .fields vs ∧ vs[2]? = some .none) ∧ wpAny (model prog w) A c (fun cv s₂ => cv = .none ∧ s₂ = s₁) E s₁ ∧
      (∀ h', Heap.SameBut e s₁.heap h' → h'.get? e = some { cls := .type cls, data := .fields #[.ref t, .none, .ref h, .none, .bool true, .none] } → E (.ref e) { s₁ with heap := h' })) E s) :
    wpAny (model prog w) A (raiseStmt env (some x) (some c)) Q E s := by
  unfold raiseStmt
  refine wpAny_bind (wpAny_mono hx (fun v s₁ h₁ => ?_) fun _ _ x => x)
  obtain ⟨e, t, rfl, hne, he, hold, hc, hE⟩ := h₁
  refine wpAny_bind (wpAny_holding (wpAny_mono hc (fun cv s₂ h₂ => ?_) fun _ _ x => x))
  obtain ⟨rfl, rfl⟩ := h₂
  refine wpAny_bind (wpAny_pure ?_)
  dsimp only
  obtain ⟨hp, g, d, tk, os⟩ := s₂
  have hsub := F.isExc
  have hmeta := F.plainMeta
  repeat (first | refine wpAny_loadPart he ?_ | wp_step)
  have g1 := Heap.get?_update_self (Obj.mapFields fun x => x.setIfInBounds 3 Value.none) he rfl
  have g2 := Heap.get?_update_self (Obj.mapFields fun x => x.setIfInBounds 4 (Value.bool true)) g1 rfl
  obtain ⟨oh, vs, ho, hd, hv⟩ := hold
  have ho2 : ((hp.update e (Obj.mapFields fun x => x.setIfInBounds 3 Value.none)).update e (Obj.mapFields fun x => x.setIfInBounds 4 (Value.bool true))).get? h = some oh :=
    (Heap.get?_update_other _ _ hne).trans ((Heap.get?_update_other _ _ hne).trans ho)
  unfold raiseNew
  refine wpAny_bind (wpAny_handled ?_)
  rw [hh]
  have hne' : (Value.ref h != Value.ref e) = true := by
    rw [bne_iff_ne]; intro q; injection q with q; exact hne q.symm
  dsimp only
  rw [if_pos hne']
  refine wpAny_bind (wpAny_holding (unchain_none ho2 hd hv ?_))
  refine wpAny_bind ?_
  show wpAny _ _ (setField (.ref e) 2 (.ref h)) _ _ _
  refine wpAny_setField g2 rfl (by simp [Obj.mapFields]) ?_
  refine wpAny_throw ?_
  exact hE _ (((Heap.SameBut.update ..).trans (Heap.SameBut.update ..)).trans (Heap.SameBut.update ..)) (Heap.get?_update_self _ g2 rfl)
end
end Mine
end

noncomputable section
set_option maxRecDepth 100000
namespace Mine
open PySem PySem.W PyProof.Rows PySem.Calls
section
variable {prog : Program} {w : World} {A : Around} {E : Value → Shared → Prop} {s : Shared} {env : Env}
theorem Raise_fromNone {cls newId initId : String} (FC : ExcCallFacts cls newId initId) (FR : ExcRaiseFacts cls) {x : Str} {np cpos pos kpos : Pos} {kk : Nat} {e₀ : Expr} {rest : List Expr} {h : Addr} {Q : Flow → Shared → Prop} (hh : A.handled = some (.ref h))
    (hx : wpAny (model prog w) A (eval (.Name x np) env) (fun f s₁ => f = .type cls ∧ wpAny (model prog w) A (spliced (backTo cpos (starEach (e₀ :: rest) env)))
      (fun vs s₂ => vs.length ≤ sizeLine ∧ (∃ oh ws, s₂.heap.get? h = some oh ∧ oh.data = .fields ws ∧ ws[2]? = some .none) ∧
        ∀ h1 e t h', (∀ b o, s₂.heap.get? b = some o → h1.get? b = some o) → s₂.heap.get? e = none → s₂.heap.get? t = none → h1.get? t = some { cls := .type "tuple", data := .seq vs.toArray } → e ≠ t → Heap.SameBut e h1 h' →
          h'.get? e = some { cls := .type cls, data := .fields #[.ref t, .none, .ref h, .none, .bool true, .none] } → E (.ref e) { s₂ with heap := h' }) E s₁) E s)
    (he : starEach (e₀ :: rest) env = (false, eval e₀ env) :: starEach rest env := by rfl) (hplain : (backTo cpos (starEach rest env)).any (·.1) = false := by rfl) :
    wpAny (model prog w) A (exec (.Raise (some (.Call (.Name x np) (e₀ :: rest) [] cpos)) (some (.Constant .none kk kpos)) pos) env) Q E s := by
  rw [arm_exec_Raise]
  simp only [evalOpt, Option.map]
  refine wpAny_bind (wpAny_standAt (raiseStmt_from FR hh (wpAny_bind (wpAny_Call_ofName (wpAny_mono hx (fun f s₁ h₁ => ?_) fun _ _ y => y)))))
  obtain ⟨rfl, h₁⟩ := h₁
  have hpl : (backTo cpos (starEach (e₀ :: rest) env)).any (·.1) = false := by rw [he]; show (false || (backTo cpos (starEach rest env)).any (·.1)) = false; rw [hplain]; rfl
  refine callWith_excType hpl ?_
  rw [he] at h₁ ⊢
  refine Calls.evalArgs_plain (wpAny_mono h₁ (fun vs s₂ h₂ => ?_) fun _ _ y => y)
  obtain ⟨hlen, hold, h₂⟩ := h₂
  obtain ⟨hp, g, d, tk, os⟩ := s₂
  refine wpAny_call_exc FC (hrest := hlen) fun h' e hm => ?_
  obtain ⟨t, ht, htn, htt⟩ := hm.there
  obtain ⟨oh, ws, ho, hd, hw⟩ := hold
  have hne : e ≠ h := fun q => by have := hm.new; rw [q] at this; rw [this] at ho; cases ho
  have hnt : e ≠ t := fun q => by rw [q, htt] at ht; cases ht
  refine wpAny_bind (wpAny_standAt (wpAny_pure ⟨e, t, rfl, hne, ht, ⟨oh, ws, hm.keeps _ _ ho, hd, hw⟩, ?_, fun h2 hs hg => ?_⟩))
  · rw [arm_eval_Constant]
    exact wpAny_bind (wpAny_pure (wpAny_bind (wpAny_standAt (wpAny_pure ⟨rfl, rfl⟩))))
  · exact h₂ h' e t h2 hm.keeps hm.new htn htt hnt hs hg
end
end Mine
end

noncomputable section
set_option maxRecDepth 100000
namespace Mine
open PySem PySem.W PyProof.Rows PySem.Calls
def ExcAt (h B : Heap) (e : Addr) (cls a0 fl c2 : Value) : Prop :=
  ∃ oe vs T oT ts, h.get? e = some oe ∧ (oe.cls = cls ∧ vs[0]? = some a0) ∧ oe.data = .fields vs ∧ vs[1]? = some (.ref T) ∧ vs[2]? = some c2 ∧ B.get? T = none ∧ T ≠ e ∧ h.get? T = some oT ∧ oT.data = .fields ts ∧ ts[3]? = some fl
theorem ExcAt.traced {h B : Heap} {e : Addr} {cls a0 fl c2 : Value} (x : ExcAt h B e cls a0 fl c2) : h.TracedAtW B e cls a0 fl := by
  obtain ⟨oe, vs, T, oT, ts, x1, x2, x3, x4, _, x6⟩ := x
  exact ⟨oe, vs, T, oT, ts, x1, x2, x3, x4, x6⟩
theorem ExcAt.there {h B : Heap} {e : Addr} {cls a0 fl c2 : Value} (x : ExcAt h B e cls a0 fl c2) : ∃ oh ws, h.get? e = some oh ∧ oh.cls = cls ∧ oh.data = .fields ws ∧ ws[2]? = some c2 := by
  obtain ⟨oe, vs, T, oT, ts, x1, x2, x3, x4, x5, _⟩ := x
  exact ⟨oe, vs, x1, x2.1, x3, x5⟩
section
variable {M : Model} {A : Around} {E : Value → Shared → Prop} {s : Shared}
theorem entryX {B : Heap} {env : Env} {outer : List Env} {L e : Addr} {oe : Obj} {vs : Array Value} {head a0 c2 : Value} {hadNext : Bool} {Q : Unit → Shared → Prop}
    (hfr : A.frames = some (env :: outer)) (hl : s.heap.FunFrames B (env :: outer)) (hf : env.frame = some L)
    (he : s.heap.get? e = some oe) (hkb : B.StaysIn s.heap) (hen : B.get? e = none) (hd : oe.data = .fields vs) (hsz : 1 < vs.size) (h0 : vs[0]? = some a0) (h2 : vs[2]? = some c2)
    (h : ∀ h', B.StaysIn h' → h'.FunFrames B (env :: outer) → ExcAt h' B e oe.cls a0 (rawInt L) c2 → s.heap.UpToSlots h' → Q () { s with heap := h' }) :
    wpAny M A (do let a ← frameOf env; let pl ← entryPlaceOf L hadNext; let b ← EntryCells.newEntry head a .none (rawInt L) .none pl; setField (.ref e) 1 b) Q E s := by
  have hene : e ∉ (env :: outer).filterMap (·.frame) := fun hm => by
    obtain ⟨_, o, ho, hnf⟩ := hl.mem hm
    rw [he] at ho; injection ho with ho; subst ho; exact hnf vs hd
  refine wpAny_bind (wpAny_frameOf_fun hfr hl hf fun h₁ hs₁ => ?_)
  refine wpAny_bind (wpAny_entryPlaceOf fun pl hpl => ?_)
  unfold EntryCells.newEntry newFields
  refine wpAny_bind (wpAny_newObj_type ?_ (hpl.sizeOk5 _ _ _ _ _))
  have he₁ : h₁.get? e = some oe := (hs₁.2.1 e hene).trans he
  have kb₁ : B.StaysIn h₁ := fun b o hbo => (hs₁.2.1 b fun hm => by rw [(hl.mem hm).1] at hbo; cases hbo).trans (hkb b o hbo)
  generalize hN : ({ cls := .type "traceback", dict := none, data := .fields ([head, .ref L, .none, rawInt L, .none] ++ (if pl.isEmpty then List.replicate 6 Value.none else pl)).toArray } : Obj) = oN
  have he₂ := Heap.get?_push_of_some (h := h₁) oN he₁
  refine wpAny_setField he₂ hd hsz ?_
  have hTe : h₁.objs.size ≠ e := Nat.ne_of_gt (Heap.lt_size he₁)
  have hd₃ := Obj.data_mapFields hd (·.setIfInBounds 1 (Value.ref h₁.objs.size))
  have he₃ := Heap.get?_update_self (Obj.mapFields (·.setIfInBounds 1 (Value.ref h₁.objs.size))) he₂ (Obj.isFreed_of_fields hd₃)
  have hT₃ : ((h₁.push oN).update e (Obj.mapFields (·.setIfInBounds 1 (Value.ref h₁.objs.size)))).get? h₁.objs.size = some oN :=
    (Heap.get?_update_other _ _ (Ne.symm hTe)).trans (Heap.get?_push_size h₁ (by rw [← hN]; rfl))
  have keep : ∀ b o, b ≠ e → h₁.get? b = some o → ((h₁.push oN).update e (Obj.mapFields (·.setIfInBounds 1 (Value.ref h₁.objs.size)))).get? b = some o :=
    fun b o hbe hb => by
      rw [Heap.get?_update_other _ _ (Ne.symm hbe)]
      exact Heap.get?_push_of_some _ hb
  have noRecord : ∀ b o, s.heap.get? b = some o → (∀ vs, o.data ≠ .fields vs) → b ≠ e := fun b o hb hnf q => by
    rw [q, he] at hb; injection hb with hb; subst hb; exact hnf vs hd
  refine h _ (fun b o hbo => keep b o (fun q => by rw [q, hen] at hbo; cases hbo) (kb₁ b o hbo)) (hl.of_keeps fun b o hb hnf => ?_) ?_ fun b o hb hnf => ?_
  · obtain ⟨sl, hs⟩ := hs₁.2.2 b o hb
    exact ⟨_, keep b _ (noRecord b o hb hnf) hs, rfl⟩
  · refine ⟨_, _, h₁.objs.size, oN, ([head, .ref L, .none, rawInt L, .none] ++ (if pl.isEmpty then List.replicate 6 Value.none else pl)).toArray, he₃, ⟨Obj.cls_mapFields _ _, by rw [Array.getElem?_setIfInBounds_ne (by decide)]; exact h0⟩, hd₃, by simp [hsz], by rw [Array.getElem?_setIfInBounds_ne (by decide)]; exact h2, kb₁.fresh, hTe, hT₃, by rw [← hN], ?_⟩
    first | (simp; done) | (rcases hpl with rfl | ⟨_, _, _, _, _, _, _, rfl⟩ <;> simp)
  · obtain ⟨sl, hs⟩ := hs₁.2.2 b o hb
    exact ⟨sl, keep b _ (noRecord b o hb hnf) hs⟩
theorem noteX {B : Heap} {env : Env} {outer : List Env} {L e : Addr} {oe : Obj} {vs : Array Value} {a0 c2 : Value} {Q : Unit → Shared → Prop}
    (hfr : A.frames = some (env :: outer)) (hl : s.heap.FunFrames B (env :: outer)) (hf : env.frame = some L)
    (he : s.heap.get? e = some oe) (hkb : B.StaysIn s.heap) (hen : B.get? e = none) (hd : oe.data = .fields vs) (h1 : vs[1]? = some .none) (h0 : vs[0]? = some a0) (h2 : vs[2]? = some c2)
    (h : ∀ h', B.StaysIn h' → h'.FunFrames B (env :: outer) → ExcAt h' B e oe.cls a0 (rawInt L) c2 → s.heap.UpToSlots h' → Q () { s with heap := h' }) : wpAny M A (noteFrame (.ref e) env) Q E s := by
  unfold noteFrame
  simp only [hf]
  refine wpAny_bind (wpAny_field he hd h1 ?_)
  rw [if_neg (by decide)]
  exact entryX hfr hl hf he hkb hen hd (Array.getElem?_eq_some_iff.mp h1).1 h0 h2 h
theorem flightX {B : Heap} {l : List Env} {e : Addr} {cls a0 fl c2 : Value} {fr : Option Addr} {Q : Unit → Shared → Prop}
    (hkb : B.StaysIn s.heap) (hl : s.heap.FunFrames B l) (ht : ExcAt s.heap B e cls a0 fl c2)
    (h : ∀ h', B.StaysIn h' → h'.FunFrames B l → ExcAt h' B e cls a0 (fr.elim .none fun f => rawInt f) c2 → s.heap.UpToSlots h' → Q () { s with heap := h' }) :
    wpAny M A (setFlight (.ref e) fr) Q E s := by
  obtain ⟨oe, vs, T, oT, ts, he, hcls, hd, h1, h2, hnT, hTe, hT, hdT, h3⟩ := ht
  have hsz3 : 3 < ts.size := (Array.getElem?_eq_some_iff.mp h3).1
  have other : ∀ b, b ≠ T → (s.heap.update T (Obj.mapFields (·.setIfInBounds 3 (fr.elim Value.none fun f => rawInt f)))).get? b = s.heap.get? b :=
    fun b hb => Heap.get?_update_other _ _ (Ne.symm hb)
  have noRecord : ∀ b o, s.heap.get? b = some o → (∀ vs, o.data ≠ .fields vs) → b ≠ T := fun b o hb hnf q => by
    rw [q, hT] at hb; injection hb with hb; subst hb; exact hnf ts hdT
  unfold setFlight
  refine wpAny_bind (wpAny_field he hd h1 ?_)
  rw [if_pos (show (Value.ref T != Value.none) = true from by simp)]
  refine wpAny_setField hT hdT hsz3 (h _ (fun b o hbo => (other b fun q => by rw [q, hnT] at hbo; cases hbo).trans (hkb b o hbo))
    (hl.of_keeps fun b o hb hnf => ⟨o, (other b (noRecord b o hb hnf)).trans hb, rfl⟩) ?_ fun b o hb hnf => ⟨o.slots, (other b (noRecord b o hb hnf)).trans hb⟩)
  exact ⟨oe, vs, T, _, _, (other e (Ne.symm hTe)).trans he, hcls, hd, h1, h2, hnT, hTe, Heap.get?_update_self _ hT (Obj.isFreed_of_fields (Obj.data_mapFields hdT _)), Obj.data_mapFields hdT _, by simp [hsz3]⟩
end
section
variable {A₀ : Around} {base g G B h h₅ : Heap} {outer : List Env} {env : Env} {L : Addr} {m : Str → Option Value}
theorem groundX (K : Below A₀ base outer g) (F : Fr g L G m) (hf : env.frame = some L) (hBG : ∀ b o, G.get? b = some o → b ∉ (env :: outer).filterMap (·.frame) → B.get? b = some o) (hBh : B.StaysIn h₅) (hsm : G.UpToSlots h₅) :
    ∃ g', KtsTurn (outer.filterMap (·.frame)) g g' ∧ Fr g' L h₅ m ∧ Below A₀ base outer g' := by
  obtain ⟨T, S⟩ := kts_turn_at (h := h₅) (fs := outer.filterMap (·.frame)) (g := g)
    (fun b hb => by
      obtain ⟨_, o, ho, _⟩ := K.frames.mem hb
      exact ⟨o, ho⟩)
    (fun b o e nm => hBh b o (hBG b o (F.keep b o e) (fun hm => by
      rcases mem_frames hf hm with z | z
      · rw [z, kts_self F] at e
        cases e
      · exact nm z)))
    (fun b o e hm => by
      obtain ⟨_, o', ho', hd⟩ := K.frames.mem hm
      rw [e] at ho'
      cases ho'
      exact hsm b o (F.keep b o e) hd)
  refine ⟨_, T, ⟨hsm.ns F.ns, S, by rw [T.size]; exact F.above⟩, ⟨K.stack, fun b o e => T.other b o (K.stays b o e) (fun hm => by
    rw [(K.frames.mem hm).1] at e
    cases e), K.frames.of_keeps fun b o e _ => ?_⟩⟩
  obtain ⟨sl, hs⟩ := T.up e
  exact ⟨_, hs, rfl⟩
/-- what stands while the frame holds its own exception -/
structure Hid (base h : Heap) (frames : List Addr) (B : Heap) : Prop where
  stays : base.StaysIn B
  from_ : ∀ b o, h.get? b = some o → b ∉ frames → B.get? b = some o
  none_ : ∀ b, h.get? b = none → B.get? b = none
  off : ∀ b ∈ frames, B.get? b = none
theorem own_caught {M : Model} {E : Value → Shared → Prop} {s' : Shared} {e : Addr} {X : String} {R : Unit → Shared → Prop} (K : Below A₀ base outer g) (F : Fr g L h m) (hf : env.frame = some L) (hk : env.scope.kind = .function) (hx : Heap.NewExc h s'.heap e X)
    (k : ∀ B h' a0, Hid base h ((env :: outer).filterMap (·.frame)) B → B.get? e = none → B.StaysIn h' → h'.FunFrames B (env :: outer) → ExcAt h' B e (.type X) a0 .none .none → h.UpToSlots h' → R () { s' with heap := h' }) :
    wpAny M (A₀.deeper env) (noteFrame (.ref e) env) (fun _ s₂ => wpAny M (A₀.deeper env) (setFlight (.ref e) none) R E s₂) E s' := by
  have K' := below_push K F hf hk
  have hin : ∀ env' ∈ (env :: outer), ∀ b, env'.frame = some b → b ∈ (env :: outer).filterMap (·.frame) := fun env' he b hb => List.mem_filterMap.mpr ⟨env', he, hb⟩
  have st : base.StaysIn (hideAll h ((env :: outer).filterMap (·.frame))) := fun b o q => hideAll_get _ (K'.stays b o q) fun hm => by
    rw [(K'.frames.mem hm).1] at q; cases q
  have nn : ∀ b, h.get? b = none → (hideAll h ((env :: outer).filterMap (·.frame))).get? b = none := fun b hb => by
    cases q : (hideAll h ((env :: outer).filterMap (·.frame))).get? b with
    | none => rfl
    | some o => have := of_hideAll _ q; rw [hb] at this; cases this
  have hid : Hid base h ((env :: outer).filterMap (·.frame)) (hideAll h ((env :: outer).filterMap (·.frame))) := ⟨st, fun b o q nm => hideAll_get _ q nm, nn, fun b hb => hideAll_none _ hb⟩
  obtain ⟨ob, t, he, hc, hd⟩ := hx.there
  have hen := nn _ hx.new
  refine noteX (Around.frames_deeper K.stack) ((funFrames_hide K'.frames hin).of_keeps fun b o hb _ => ⟨o, hx.keeps b o hb, rfl⟩) hf he (fun b o hb => hx.keeps b o (of_hideAll _ hb)) hen hd rfl rfl rfl fun h₁ s₁ f₁ x₁ u₁ => ?_
  rw [hc] at x₁
  refine flightX s₁ f₁ x₁ fun h₂ s₂ f₂ x₂ u₂ => ?_
  exact k _ h₂ t hid hen s₂ f₂ x₂ (((Heap.UpToSlots.of_keeps hx.keeps).trans u₁).trans u₂)
end
end Mine
end

noncomputable section
set_option maxRecDepth 100000
namespace Mine
open PySem PySem.W PyProof.Rows PySem.Calls
section
variable {prog : Program} {w : World} {A₀ : Around} {B : Heap} {outer : List Env} {env : Env} {L : Addr} {s' : Shared} {e : Addr} {cls a0 c2 : Value} {oe : Obj} {vs : Array Value}
theorem own_back {hs : List ExceptHandler} {Qo : Flow → Shared → Prop} {Eo : Value → Shared → Prop} {hm : Option Value} (hfr : A₀.frames = some outer) (hf : env.frame = some L)
    (hl : s'.heap.FunFrames B (env :: outer)) (hkb : B.StaysIn s'.heap) (hen : B.get? e = none) (he : s'.heap.get? e = some oe) (hc : oe.cls = cls) (hd : oe.data = .fields vs) (h1 : vs[1]? = some .none) (h0 : vs[0]? = some a0) (h2 : vs[2]? = some c2)
    (k : ∀ h', B.StaysIn h' → h'.FunFrames B (env :: outer) → ExcAt h' B e cls a0 .none c2 → s'.heap.UpToSlots h' → wpAny (model prog w) (A₀.deeper env) (handleBy (.ref e) env hs) Qo Eo { s' with heap := h' }) :
    notedBy (model prog w) ((A₀.deeper env).mark hm) env (cameBackBy (model prog w) (A₀.deeper env) env (fun e s₁ => wpAny (model prog w) (A₀.deeper env) (noteFrame e env) (fun _ s₂ => wpAny (model prog w) (A₀.deeper env) (setFlight e none) (fun _ s₃ => wpAny (model prog w) (A₀.deeper env) (handleBy e env hs) Qo Eo s₃) Eo s₂) Eo s₁)) (.ref e) s' := by
  unfold notedBy
  refine noteX (A := (A₀.deeper env).mark hm) (Around.frames_deeper hfr) hl hf he hkb hen hd h1 h0 h2 fun h₁ s₁ f₁ x₁ u₁ => ?_
  rw [hc] at x₁
  unfold cameBackBy
  obtain ⟨oe', vs', T, oT, ts, y1, y2, y3, y4, y5⟩ := id x₁
  refine wpAny_bind (wpAny_field y1 y3 y4 ?_)
  rw [if_neg (by simp)]
  refine flightX s₁ f₁ x₁ fun h₂ s₂ f₂ x₂ u₂ => ?_
  rw [hf] at x₂
  refine wpAny_noteFrame_againW hf x₂.traced ?_
  refine flightX s₂ f₂ x₂ fun h₃ s₃ f₃ x₃ u₃ => ?_
  exact k h₃ s₃ f₃ x₃ ((u₁.trans u₂).trans u₃)
theorem ExcAt.keeps {h h' B : Heap} {e : Addr} {cls a0 fl c2 : Value} (x : ExcAt h B e cls a0 fl c2) (k : ∀ b o, h.get? b = some o → h'.get? b = some o) : ExcAt h' B e cls a0 fl c2 := by
  obtain ⟨oe, vs, T, oT, ts, x1, x2, x3, x4, x5, x6, x7, x8, x9⟩ := x
  exact ⟨oe, vs, T, oT, ts, k _ _ x1, x2, x3, x4, x5, x6, x7, k _ _ x8, x9⟩
theorem own_gone {Qo : Flow → Shared → Prop} {Eo : Value → Shared → Prop} (hf : env.frame = some L)
    (hl : s'.heap.FunFrames B (env :: outer)) (hkb : B.StaysIn s'.heap) (x : ExcAt s'.heap B e cls a0 .none c2)
    (k : ∀ h', B.StaysIn h' → h'.FunFrames B (env :: outer) → ExcAt h' B e cls a0 (rawInt L) c2 → s'.heap.UpToSlots h' → Eo (.ref e) { s' with heap := h' }) :
    wpAny (model prog w) (A₀.deeper env) (handleBy (.ref e) env []) Qo Eo s' := by
  refine wpAny_handleBy_nil ?_
  unfold PySem.passOn
  obtain ⟨oe', vs', T, oT, ts, y1, y2, y3, y4, y5⟩ := id x
  refine wpAny_bind (wpAny_field y1 y3 y4 ?_)
  rw [if_neg (by simp)]
  refine wpAny_bind (flightX hkb hl x fun h₂ s₂ f₂ x₂ u₂ => ?_)
  rw [hf] at x₂
  exact wpAny_throw (k h₂ s₂ f₂ x₂ u₂)
theorem own_leave {M : Model} {A : Around} {Q : Unit → Shared → Prop} {E : Value → Shared → Prop} (hf : env.frame = some L)
    (hl : s'.heap.FunFrames B (env :: outer)) (hkb : B.StaysIn s'.heap) (x : ExcAt s'.heap B e cls a0 (rawInt L) c2)
    (k : ∀ h', B.StaysIn h' → h'.FunFrames B outer → h'.TracedW B e cls a0 → s'.heap.UpToSlots h' → Q () { s' with heap := h' }) : wpAny M A (leaving env (.ref e)) Q E s' := by
  unfold leaving
  refine wpAny_bind (wpAny_noteFrame_againW hf x.traced ?_)
  refine flightX hkb hl x fun h₂ s₂ f₂ x₂ u₂ => ?_
  obtain ⟨_, _, k2⟩ := f₂
  exact k h₂ s₂ k2 x₂.traced u₂
end
section
variable {A₀ : Around} {base g B h h' : Heap} {outer : List Env} {env : Env} {L e t : Addr} {m : Str → Option Value} {cls : Value} {vs : List Value} {news : List (Addr × Obj)}
theorem own_raised (K : Below A₀ base outer g) (F : Fr g L h m) (N : News g L h news) (hf : env.frame = some L) (hid : Hid base h ((env :: outer).filterMap (·.frame)) B) (hen : B.get? e = none) (hent : B.get? t = none) (st : B.StaysIn h') (ff : h'.FunFrames B outer) (tr : h'.TracedW B e cls (.ref t)) (tp : h'.TupAt t vs) :
    RaisedS base g outer e cls t vs news h' := by
  refine ⟨⟨B, hid.stays, fun b o e nm => hid.from_ b o (F.keep b o e) fun hm => ?_, fun q hq => ⟨hid.from_ _ _ (N q hq).1 fun hm => ?_, (N q hq).2.2, ?_⟩, ⟨st, hen, ff, tr⟩, hent⟩, tp⟩
  · rcases mem_frames hf hm with z | z
    · rw [z, kts_self F] at e; cases e
    · exact nm z
  · rcases mem_frames hf hm with z | z
    · exact (N q hq).2.1 z
    · obtain ⟨o, ho, _⟩ := (K.frames.mem z).2
      rw [(N q hq).2.2] at ho; cases ho
  · exact fresh_of_stays K.stays (N q hq).2.2
end
end Mine
end

noncomputable section
set_option maxRecDepth 100000
namespace Mine
open PySem PySem.W PyProof.Rows PySem.Calls
section
variable {prog : Program} {w : World} {A₀ A : Around} {s : Shared} {base h₀ : Heap} {L : Addr} {m : Str → Option Value} {ce : Env} {news : List (Addr × Obj)} {K : Frag} {p : Program} {loose : List Str} {mean : ExcName → Option Value} {mg mb : Str → Option Value}
    {R : Result → Shared → Prop} {name qual : Str} {params : Arguments} {body : List Stmt} {scope : Scope} {dV kV doc pm cdv ct oc : Value} {an od : Option Addr} {osl : Array (Option Value)} {f : Addr} {args : Args} {binds : List (Str × Value)}
theorem enterX (B : Below A₀ base [] h₀) (F : Fr h₀ L s.heap m) (N : News h₀ L s.heap news) (hA : A.frames = some [ce]) (hf : ce.frame = some L) (hck : ce.scope.kind = .function) :
    ∃ oL es ep, (hideAll s.heap (news.map (·.1))).get? L = some oL ∧ oL.data = .dict es ep ∧ (∀ h', h'.get? L = some oL → Heap.Ns h' L m) ∧ (∀ (sl : Array (Option Value)) h', h'.get? L = some { oL with slots := sl } → Heap.Ns h' L m) ∧
      h₀.StaysIn (hideAll s.heap (news.map (·.1))) ∧ Below A base [ce] (hideAll s.heap (news.map (·.1))) := by
  have nm : ∀ b o, h₀.get? b = some o → b ∉ news.map (·.1) := fun b o e q => by
    obtain ⟨p, hp, rfl⟩ := List.mem_map.mp q
    rw [(N p hp).2.2] at e; cases e
  have st : h₀.StaysIn (hideAll s.heap (news.map (·.1))) := fun b o e => hideAll_get _ (F.keep b o e) (nm b o e)
  obtain ⟨oL, es, ep, hL, hLd, hLk, hLf⟩ := F.ns
  have nL : L ∉ news.map (·.1) := fun q => by
    obtain ⟨p, hp, e⟩ := List.mem_map.mp q
    exact (N p hp).2.1 e
  have hLg := hideAll_get (news.map (·.1)) hL nL
  have B₁ := below_push B F hf hck
  refine ⟨oL, es, ep, hLg, hLd, fun h' e => ⟨oL, es, ep, e, hLd, hLk, hLf⟩, fun sl h' e => ⟨_, es, ep, e, hLd, hLk, hLf⟩, st, ⟨hA, fun b o e => st b o (B.stays b o e), funFrames_hideAll B₁.frames fun env he b hb hff => ?_⟩⟩
  have hee : env = ce := by simpa using he
  subst hee
  rw [hf] at hff
  exact nL ((Option.some.inj hff : L = b) ▸ hb)
theorem code_defSX (B : Below A₀ base [] h₀) (F : Fr h₀ L s.heap m) (X₀ : K.In h₀) (N : News h₀ L s.heap news) (T : Top p loose mean mg mb h₀) (hA : A.frames = some [ce]) (hf : ce.frame = some L) (hck : ce.scope.kind = .function)
    (ho : K.lookup f = some ⟨oc, od, .func (fnOf name qual params body scope dV kV doc pm an cdv ct), osl⟩) (hcd : codeIn K cdv qual = true) (hroom : A.depth < recursionLimit)
    (hbind : BindsTo s (fnOf name qual params body scope dV kV doc pm an cdv ct) args binds) (hloc : ∀ y ∈ binds, scope.names.lookup y.1 = some .local)
    (h : ∀ g L' h₁, Fr h₀ L g m → Fr g L' h₁ (fun y => binds.reverse.lookup y) → News g L' h₁ news → Below A base [ce] g → K.In g → Top p loose mean mg mb g → KtsDicts ([ce].filterMap (·.frame)) g →
      wpAny (model prog w) (A.deeper (envOf qual scope L' f cdv)) (execs body (envOf qual scope L' f cdv))
        (fun fl s' => LeaveS0 ([ce].filterMap (·.frame)) h₀ L m g R (match fl with | .ret v => v | _ => .none) s')
        (fun e s' => wpAny (model prog w) (A.deeper (envOf qual scope L' f cdv)) (leaving (envOf qual scope L' f cdv) e) (fun _ s'' => R (.error e) s'') (fun e' s'' => R (.error e') s'') s')
        { s with heap := h₁, toks := s.toks + binds.length })
    (hco : scope.isCoroutine = false) (hgen : scope.isGenerator = false) (hk : scope.kind = .function)
    (hcell : ∀ x ∈ scope.names, x.2 ≠ .cell) : codeAny (model prog w) A (.call (.ref f) args) R s := by
  have X := X₀.keeps F.keep
  refine codeAny_call_def (fd := fnOf name qual params body scope dV kV doc pm an cdv ct) (body := body) (binds := binds) hroom (X _ _ ho) rfl (T.nolimit.keeps F.keep) (codeRec_of X hcd) rfl hbind hcell hloc (fun h₁ hns hk₁ => ?_) hco hgen hk
  obtain ⟨oL, es, ep, hLg, hLd, hN, hNs, st, B₂⟩ := enterX B F N hA hf hck
  have hmem : ∀ b, b ∈ [ce].filterMap (·.frame) → b = L := fun b hb => by
    rcases mem_frames hf hb with z | z
    · exact z
    · simp at z
  refine wpAny_mono (h _ s.heap.objs.size h₁ ⟨hN _ hLg, st, F.above⟩ ⟨hns, fun b o e => hk₁ b o (of_hideAll _ e), Nat.le_of_eq (hideAll_size _ _)⟩
    (fun p hp => ⟨hk₁ _ _ (N p hp).1, Nat.ne_of_lt (Heap.lt_size (N p hp).1), hideAll_none _ (List.mem_map_of_mem hp)⟩) B₂ (X₀.keeps st) (T.keeps st) (fun b hb => by
      rw [hmem b hb]; exact ⟨oL, es, ep, hLg, hLd⟩)) (fun fl s' hl => ?_) fun _ _ y => y
  obtain ⟨g', L', m', news', T', F', N', k⟩ := hl
  have nL₀ : h₀.get? L = none := kts_self F
  obtain ⟨sl, hs⟩ := T'.up hLg
  refine k ⟨hNs sl _ (F'.keep _ _ hs), fun b o e => F'.keep b o (T'.other b o (st b o e) (fun q => by
    rw [hmem b q, nL₀] at e; cases e)), F.above⟩ fun p hp => ⟨(N' p hp).1, fun q => ?_, ?_⟩
  · have := (N' p hp).2.2; rw [q, hs] at this; cases this
  · cases q : h₀.get? p.1 with
    | none => rfl
    | some o =>
      obtain ⟨sl', hs'⟩ := T'.up (st _ _ q)
      have := (N' p hp).2.2
      rw [hs'] at this
      cases this
end
end Mine
end

noncomputable section
set_option maxRecDepth 100000
namespace Mine
open PySem PySem.W PyProof.Rows PySem.Calls
section
variable {prog : Program} {w : World} {A : Around} {E : Value → Shared → Prop} {s : Shared} {h₀ : Heap} {env : Env}
def TurnR (h₀ : Heap) (L : Addr) (nw : List (Addr × Obj)) (J : (Str → Option Value) → Prop) (Q : Flow → Shared → Prop) (s₁ : Shared) (f : Flow) (s₂ : Shared) : Prop :=
  match f with
  | .ret v => Q (.ret v) s₂
  | .brk => Q .next s₂
  | _ => ∃ h' tk' m₂, s₂ = { s₁ with heap := h', toks := tk' } ∧ Fr h₀ L h' m₂ ∧ News h₀ L h' nw ∧ J m₂
def EnumSrc (prog : Program) (w : World) (A : Around) (h₀ : Heap) (env : Env) (xi xc : Str) (body : List Stmt) (Q : Flow → Shared → Prop) (E : Value → Shared → Prop) (xv : Value) (s₁ : Shared) : Prop :=
  ∃ (l : Addr) (vs : Array Value) (n : Nat) (news : List (Addr × Obj)) (m : Str → Option Value) (e it : Addr) (J : Nat → (Str → Option Value) → Prop), xv = .ref e ∧ A.handled = none ∧ (l, lobj vs n) ∈ news ∧ IsEnum s₁.heap e it 0 .none ∧ s₁.heap.IsListIter it l 0 ∧ e ≠ it ∧ e ≠ env.locals ∧ it ≠ env.locals ∧
    h₀.get? e = none ∧ h₀.get? it = none ∧ (∀ p ∈ news, p.1 ≠ e ∧ p.1 ≠ it) ∧ Fr h₀ env.locals s₁.heap m ∧ News h₀ env.locals s₁.heap news ∧ J 0 m ∧
    (∀ (i : Nat) v t h tk nw m₁, vs[i]? = some v → J i m₁ → Sub news nw → Fr h₀ env.locals h (fun y => if y = xc then some v else if y = xi then some (.int i t) else m₁ y) → News h₀ env.locals h nw →
      wpAny (model prog w) A (execs body env) (TurnR h₀ env.locals nw (J (i + 1)) Q { s₁ with heap := h, toks := tk }) E { s₁ with heap := h, toks := tk }) ∧
    (∀ h tk m₁, J vs.size m₁ → Fr h₀ env.locals h m₁ → News h₀ env.locals h news → Q .next { s₁ with heap := h, toks := tk })
theorem For_enumL {Q : Flow → Shared → Prop} {xi xc : Str} {pk pv pt pos : Pos} {x1 : Nat} {iter : Expr} {body : List Stmt} (h₀ : Heap) (hh : A.handled = none)
    (hxi : env.kindOf xi = some .local) (hxc : env.kindOf xc = some .local)
    (hp : (env.scope.kind == .class || (env.scope.kind == .module && env.locals != env.globals)) = false)
    (h : wpAny (model prog w) A (eval iter env) (EnumSrc prog w A h₀ env xi xc body Q E) E s)
    (hs : ∀ x, foldedSetIterable iter env x = pure x)
    (hE : PassesOwn (model prog w) A env E := by passes_own) :
    wpAny (model prog w) A (exec (.For (.Tuple [.Name xi pk, .Name xc pv] x1 pt) iter body [] pos) env) Q E s := by
  refine For_pair3 h₀ hh hxi hxc hp (wpAny_mono h (fun xv s₁ h₁ => ?_) fun _ _ e => e) hs (hE := hE)
  obtain ⟨l, vs, n, news, m, e, it, J, rfl, hA, hl, he, hit, hei, heL, hiL, hn1, hn2, off, F, N, h0, turn, done⟩ := h₁
  refine wpAny_pyIter_enum he ?_
  have hle : l ≠ e := (off _ hl).1
  have hli : l ≠ it := (off _ hl).2
  have hlL : l ≠ env.locals := (N _ hl).2.1
  have isl : s₁.heap.IsList l vs := ⟨_, (N _ hl).1, rfl, _, rfl⟩
  refine ⟨e, [e, it, l], [e, it], vs.size, _, _, _, (fun i v0 v1 => ∃ t, v0 = .int i t ∧ vs[i]? = some v1), m, news, (fun i m₁ nw => J i m₁ ∧ nw = news), rfl, WalksT.enumerate hA e it l hei hle hli vs, ?_, ?_, ?_, ?_, ⟨⟨_, he⟩, hit, isl⟩, F, N, ⟨h0, rfl⟩, ?_, ?_⟩
  · rintro i vals ⟨t, x, hx, rfl⟩
    exact ⟨_, _, rfl, t, rfl, hx⟩
  · intro hm
    rcases List.mem_cons.mp hm with q | hm
    · exact heL q.symm
    rcases List.mem_cons.mp hm with q | hm
    · exact hiL q.symm
    · exact hlL (List.mem_singleton.mp hm).symm
  · intro b hb
    rcases List.mem_cons.mp hb with rfl | hb
    · exact hn1
    · rw [List.mem_singleton.mp hb]; exact hn2
  · intro p hp hb
    rcases List.mem_cons.mp hb with q | hb
    · exact (off p hp).1 q
    · exact (off p hp).2 (List.mem_singleton.mp hb)
  · rintro i v0 v1 m₁ news₁ s₂ own ⟨h2, tk2, rfl⟩ hi ⟨t, rfl, hx⟩ ⟨hJ, rfl⟩ ha hsub F₁ N₁
    refine wpAny_mono (turn i v1 t h2 tk2 _ m₁ hx hJ (fun p hp => List.mem_append_right _ hp) F₁ N₁) (fun f s₃ h₃ => ?_) fun _ _ e => e
    cases f with
    | ret v => exact h₃
    | brk => exact h₃
    | next =>
      obtain ⟨h', tk', m₂, rfl, F₂, N₂, hJ₂⟩ := h₃
      exact ⟨rfl, h', tk', m₂, news₁, rfl, F₂, N₂, rfl, hJ₂, rfl⟩
    | cont =>
      obtain ⟨h', tk', m₂, rfl, F₂, N₂, hJ₂⟩ := h₃
      exact ⟨rfl, h', tk', m₂, news₁, rfl, F₂, N₂, rfl, hJ₂, rfl⟩
  · rintro h' tk m' news' F' N' _ ⟨hJ, rfl⟩
    exact done h' tk m' hJ F' N'
theorem enum_call {l : Addr} {vs : Array Value} {n : Nat} {L : Addr} {m : Str → Option Value} {news : List (Addr × Obj)} {Q : Value → Shared → Prop} (F : Fr h₀ L s.heap m) (N : News h₀ L s.heap news) (hl : (l, lobj vs n) ∈ news)
    (h : ∀ h' e it, Fr h₀ L h' m → News h₀ L h' news → IsEnum h' e it 0 .none → h'.IsListIter it l 0 → e ≠ it → e ≠ L → it ≠ L → h₀.get? e = none → h₀.get? it = none → (∀ p ∈ news, p.1 ≠ e ∧ p.1 ≠ it) → Q (.ref e) { s with heap := h' }) :
    wpAny (model prog w) A (call (.type "enumerate") [.ref l]) Q E s := by
  refine call_enumerate_list (l := l) (items := vs) ⟨_, (N _ hl).1, rfl, _, rfl⟩ fun h' he hit hsz hk => ?_
  have hLs : LT.lt (α := Nat) L s.heap.objs.size := F.ns.lt
  have hab : LE.le (α := Nat) h₀.objs.size L := F.above
  refine h h' _ _ (F.keeps hk) (N.grown hk) he hit (Nat.succ_ne_self _) (Nat.ne_of_gt (Nat.lt_succ_of_lt hLs)) (Nat.ne_of_gt hLs) (Heap.get?_none_of_le (by show LE.le (α := Nat) _ _; omega)) (Heap.get?_none_of_le (by show LE.le (α := Nat) _ _; omega)) fun p hp => ?_
  have : LT.lt (α := Nat) p.1 s.heap.objs.size := Heap.lt_size (N p hp).1
  exact ⟨Nat.ne_of_lt (Nat.lt_succ_of_lt this), Nat.ne_of_lt this⟩
def TurnP (h₀ : Heap) (L : Addr) (nw : List (Addr × Obj)) (M : (Str → Option Value) → Prop) (P : Prop) (Q : Flow → Shared → Prop) (s₁ : Shared) (f : Flow) (s₂ : Shared) : Prop :=
  match f with
  | .ret v => Q (.ret v) s₂
  | .brk => Q .next s₂
  | _ => ∃ h' tk' m₂, s₂ = { s₁ with heap := h', toks := tk' } ∧ Fr h₀ L h' m₂ ∧ News h₀ L h' nw ∧ M m₂ ∧ P
theorem enumP {Q : Flow → Shared → Prop} {xi xc : Str} {body : List Stmt} {l e it : Addr} {vs : Array Value} {n : Nat} {news : List (Addr × Obj)} {m : Str → Option Value} (P : Nat → Prop)
    (hh : A.handled = none) (F : Fr h₀ env.locals s.heap m) (N : News h₀ env.locals s.heap news) (hl : (l, lobj vs n) ∈ news) (he : IsEnum s.heap e it 0 .none) (hit : s.heap.IsListIter it l 0) (hei : e ≠ it) (heL : e ≠ env.locals) (hiL : it ≠ env.locals)
    (hn1 : h₀.get? e = none) (hn2 : h₀.get? it = none) (off : ∀ p ∈ news, p.1 ≠ e ∧ p.1 ≠ it) (h0 : P 0)
    (turn : ∀ (i : Nat) v t h tk nw, vs[i]? = some v → P i → Sub news nw → Fr h₀ env.locals h (fun y => if y = xc then some v else if y = xi then some (.int i t) else m y) → News h₀ env.locals h nw →
      wpAny (model prog w) A (execs body env) (TurnP h₀ env.locals nw (fun m₂ => ∀ z, z ≠ xi → z ≠ xc → m₂ z = m z) (P (i + 1)) Q { s with heap := h, toks := tk }) E { s with heap := h, toks := tk })
    (done : ∀ h tk u1 u2, P vs.size → Fr h₀ env.locals h (fun y => if y = xc then u1 else if y = xi then u2 else m y) → News h₀ env.locals h news → Q .next { s with heap := h, toks := tk }) :
    EnumSrc prog w A h₀ env xi xc body Q E (.ref e) s := by
  have fix : ∀ m₁ : Str → Option Value, (∀ z, z ≠ xi → z ≠ xc → m₁ z = m z) → ∀ a b, (fun y => if y = xc then a else if y = xi then b else m₁ y) = fun y => if y = xc then a else if y = xi then b else m y := fun m₁ hm a b => by
    funext y
    by_cases h1 : y = xc
    · simp [h1]
    · by_cases h2 : y = xi
      · simp [h1, h2]
      · simp [h1, h2, hm y h2 h1]
  refine ⟨l, vs, n, news, m, e, it, fun i m₁ => P i ∧ ∀ z, z ≠ xi → z ≠ xc → m₁ z = m z, rfl, hh, hl, he, hit, hei, heL, hiL, hn1, hn2, off, F, N, ⟨h0, fun _ _ _ => rfl⟩, ?_, ?_⟩
  · rintro i v t h tk nw m₁ hv ⟨hP, hm⟩ hsub F₁ N₁
    rw [fix m₁ hm] at F₁
    refine wpAny_mono (turn i v t h tk nw hv hP hsub F₁ N₁) (fun f s₃ h₃ => ?_) fun _ _ e => e
    cases f with
    | ret v => exact h₃
    | brk => exact h₃
    | next =>
      obtain ⟨h', tk', m₂, rfl, F₂, N₂, hM, hP₂⟩ := h₃
      exact ⟨h', tk', m₂, rfl, F₂, N₂, hP₂, hM⟩
    | cont =>
      obtain ⟨h', tk', m₂, rfl, F₂, N₂, hM, hP₂⟩ := h₃
      exact ⟨h', tk', m₂, rfl, F₂, N₂, hP₂, hM⟩
  · rintro h tk m₁ ⟨hP, hm⟩ F₁ N₁
    refine done h tk (m₁ xc) (m₁ xi) hP ?_ N₁
    have e : m₁ = fun y => if y = xc then m₁ xc else if y = xi then m₁ xi else m y := by
      funext y
      by_cases h1 : y = xc
      · simp [h1]
      · by_cases h2 : y = xi
        · rw [h2] at h1 ⊢; simp [h1]
        · simp [h1, h2, hm y h2 h1]
    rw [← e]; exact F₁
end
end Mine
end

noncomputable section
set_option maxRecDepth 100000
namespace Mine
open PySem PySem.W PyProof.Rows PySem.Calls
def bes : Bool → Bool → Array (Int × Value)
  | false, false => #[]
  | true, false => #[(0, .bool false)]
  | false, true => #[(1, .bool true)]
  | true, true => #[(0, .bool false), (1, .bool true)]
def bpl : Bool → Bool → Array Nat
  | false, false => #[]
  | true, false => #[0]
  | false, true => #[1]
  | true, true => #[0, 1]
def btab (led f t : Bool) : SetTable := { mask := 7, place := bpl f t, dummies := #[], finger := 0, led := led, moves := 0, plain := true }
def bset (led : Bool) (ep : Nat) (f t : Bool) : Obj := { cls := .type "set", dict := none, data := .set (bes f t) ep (btab led f t) }
def hB (b : Bool) : Int := if b then 1 else 0
def isB : Bool → Value → Bool
  | b, .bool c => b == c
  | _, _ => false
theorem isB_shape {b : Bool} {v : Value} (h : isB b v = true) : v = .bool b := by
  cases v <;> simp_all [isB]
section
variable {prog : Program} {w : World} {A : Around} {E : Value → Shared → Prop} {s : Shared}
theorem pyHash_bool {b : Bool} {Q : Int → Shared → Prop} (h : Q (hB b) { s with toks := s.toks + 1 }) :
    wpAny (model prog w) A (pyHash (.bool b)) Q E s := by
  have hT : s.TypeIs (.bool b) "bool" := rfl
  unfold pyHash
  have hv : [Value.bool b].any Value.onHeap = false := rfl
  refine wpAny_bind ?_
  rw [cRoomFor, if_neg (by rw [hv]; exact Bool.false_ne_true)]; refine wpAny_pure ?_
  refine wpAny_bind (wpAny_specialOf hT F.slot_bool_hash.lookup ?_)
  show wpAny _ _ (if (some (Value.builtin "int.__hash__") == some Value.none) = true then _ else _) Q E s
  rw [if_neg (by rw [beq_builtin_none]; exact Bool.false_ne_true)]
  refine wpAny_bind (wpAny_specialOf hT F.slot_bool_hash.lookup ?_)
  show wpAny _ _ (callSpecialIfBoundUnlessNone? (.bool b) "__hash__" _ >>= _) Q E s
  refine wpAny_bind (wpAny_callSpecialIfBoundUnlessNone?_slot hT F.slot_bool_hash
    (wpAny_call_entry F.slot_bool_hash hT F.entry_int_hash ?_ (F.args_int_hash_1 _)))
  have hr : ∀ c : Bool, rawHash (if c then 1 else 0) = hB c := by intro c; cases c <;> decide +kernel
  cases b
  · show wpAny _ _ (do ret (← mkInt (rawHash 0))) _ _ s
    rw [show rawHash 0 = 0 from by decide +kernel]
    exact wpAny_ret_mkInt (wpAny_ite (by rw [if_pos (by decide)]; exact wpAny_pure h))
  · show wpAny _ _ (do ret (← mkInt (rawHash 1))) _ _ s
    rw [show rawHash 1 = 1 from by decide +kernel]
    exact wpAny_ret_mkInt (wpAny_ite (by rw [if_pos (by decide)]; exact wpAny_pure h))
theorem eqBool_bool {a b : Bool} {Q : Bool → Shared → Prop} (h : Q (decide (a = b)) s) :
    wpAny (model prog w) A (eqBool (.bool a) (.bool b)) Q E s := by
  unfold eqBool
  show wpAny _ _ (if (Value.bool a == Value.bool b) = true then _ else _) Q E s
  by_cases hab : (Value.bool a == Value.bool b) = true
  · rw [if_pos hab]
    have e : a = b := by have := eq_of_beq hab; injection this
    subst e
    exact wpAny_bind (wpAny_rule (wpAny_pure (by simpa using h)))
  · rw [if_neg hab]
    refine wpAny_bind (eq_bool (wpAny_truthy_bool ?_))
    rw [show (a == b) = decide (a = b) from by cases a <;> cases b <;> rfl]
    exact h
end
def boolKind (prog : Program) (w : World) : KeyKind prog w Bool where
  is := isB
  hash := hB
  inj := fun v a b ha hb => by rw [isB_shape ha] at hb; have := isB_shape hb; injection this
  byValue := fun k v h => by rw [isB_shape h]; rfl
  pyHash := fun hv h => by rw [isB_shape hv]; exact pyHash_bool h
  eqBool := fun hu hv h => by rw [isB_shape hu, isB_shape hv]; exact eqBool_bool h
  «strs» := fun k x t v h => by simp [isB] at h
theorem lay_bool (led f t b : Bool) (hn : (if b then t else f) = false) : layNew (btab led f t) (bes f t) (hB b) (.bool b) = (bes (f || !b) (t || b), btab led (f || !b) (t || b), false, false) := by
  cases led <;> cases f <;> cases t <;> cases b <;> first | (exact absurd hn (by decide)) | rfl
theorem byScan_bool (f t b : Bool) : byScan (.bool b) (bes f t) = true := by
  cases f <;> cases t <;> cases b <;> decide +kernel
theorem find_bool (prog : Program) (w : World) (f t b : Bool) : List.findIdx? (fun e => (boolKind prog w).is b e.2) (bes f t).toList = if (if b then t else f) = true then some (if (f && b) = true then 1 else 0) else none := by
  cases f <;> cases t <;> cases b <;> rfl
theorem elems_bool (prog : Program) (w : World) (f t : Bool) : ElemsOf (boolKind prog w) (bes f t).toList := by
  intro e he
  cases f <;> cases t <;> simp [bes] at he
  · subst he; exact ⟨⟨true, rfl, rfl⟩, rfl⟩
  · subst he; exact ⟨⟨false, rfl, rfl⟩, rfl⟩
  · rcases he with rfl | rfl
    · exact ⟨⟨false, rfl, rfl⟩, rfl⟩
    · exact ⟨⟨true, rfl, rfl⟩, rfl⟩
section
variable {prog : Program} {w : World} {A : Around} {E : Value → Shared → Prop} {s : Shared} {a : Addr} {led f t b : Bool} {ep : Nat}
theorem bset_add {Q : Value → Shared → Prop} (ho : s.heap.get? a = some (bset led ep f t))
    (h : ∀ h' ep', Heap.SameBut a s.heap h' → h'.get? a = some (bset led ep' (f || !b) (t || b)) → Q .none { s with heap := h', toks := s.toks + 1 }) :
    wpAny (model prog w) A (call (.builtin "set.add") [.ref a, .bool b]) Q E s := by
  have hT : s.TypeIs (.ref a) "set" := ⟨_, ho, rfl⟩
  refine wpAny_call_entry F.slot_set_add hT F.entry_set_add ?_ (F.args_set_add_2 _ _)
  unfold Builtin.«set.add» Builtin.Frozenset.oneOther
  simp only [List.isEmpty_nil, bind_assoc]
  unfold Builtin.Frozenset.addrOf setAdd
  refine wpAny_bind (wpAny_pure ?_)
  try dsimp only
  refine wpAny_bind (wpAny_pure ?_)
  try dsimp only
  refine wpAny_bind ?_
  refine wpAny_holding ?_
  refine wpAny_bind (pyHash_bool ?_)
  unfold setAddHashed setAddHashedIn
  have hf : (btab led f t).fits (bes f t).size = true := by cases f <;> cases t <;> rfl
  refine wpAny_holding (wpAny_bind (wpAny_setState_of (s := { s with toks := s.toks + 1 }) ho rfl hf ?_))
  dsimp only
  rw [byScan_bool]
  simp only [↓reduceIte]
  unfold setAddByScan
  refine wpAny_bind ?_
  refine wpAny_bind (wpAny_rule ?_)
  refine wpAny_bind (wpAny_setScan_of (knd := boolKind prog w) (k := b) (s := { s with toks := s.toks + 1 }) (show isB b (.bool b) = true by cases b <;> rfl) ho rfl hf (elems_bool prog w f t) ?_)
  rw [find_bool]
  by_cases hn : (if b then t else f) = true
  · rw [if_pos hn]
    dsimp only
    refine wpAny_pure (wpAny_pure ?_)
    have e : s = { s with heap := s.heap } := by cases s; rfl
    rw [e]
    refine wpAny_pure ⟨_, rfl, h s.heap ep (Heap.SameBut.refl a s.heap) ?_⟩
    rw [ho]
    cases f <;> cases t <;> cases b <;> first | rfl | (exact absurd hn (by decide))
  · rw [if_neg hn]
    dsimp only
    rw [lay_bool led f t b (by simpa using hn)]
    dsimp only
    refine wpAny_bind (wpAny_pure ?_)
    rw [show (btab led (f || !b) (t || b)).plain = true from rfl]
    simp only [↓reduceIte]
    rw [hashByValue_scannable 8 (show (Value.bool b).scannable = true from rfl)]
    refine wpAny_bind (wpAny_pure ?_)
    rw [show plainKind (Value.bool b) = true from rfl]
    simp only [↓reduceIte]
    refine wpAny_bind (wpAny_storeSet_of (s := { s with toks := s.toks + 1 }) ho rfl ?_ (by cases f <;> cases t <;> cases b <;> decide +kernel))
    rw [show (!false && (btab led (f || !b) (t || b)).tooFull) = false from by cases f <;> cases t <;> cases b <;> rfl]
    simp only [Bool.false_eq_true, ↓reduceIte]
    refine wpAny_pure (wpAny_pure ?_)
    refine wpAny_pure ⟨_, rfl, h _ (ep + 1) (Heap.SameBut.update _ _ _) ?_⟩
    have := Heap.get?_update_self (Obj.putSet (bes (f || !b) (t || b)) (btab led (f || !b) (t || b))) ho rfl
    exact this
end
end Mine
end

noncomputable section
set_option maxRecDepth 100000
namespace Mine
open PySem PySem.W PyProof.Rows PySem.Calls
theorem compTurn_set (elt target iter : Expr) (scope : Scope) (pos : Pos) (it acc : Value) (env : Env) :
    compTurn (.SetComp elt [⟨target, iter, [], 0⟩] scope pos) 0 it acc env = (standAt iter.pos >>= fun _ => pyNext it >>= fun r => match r with
      | none => pure (.done .next)
      | some v => letOwnedTupleGo target it v >>= fun _ => assign target env v >>= fun _ =>
        (eval elt env >>= fun x => standAt elt.pos >>= fun _ => call (.builtin "set.add") [acc, x] >>= fun _ => pure ()) >>= fun _ =>
          again (.compLoop (.SetComp elt [⟨target, iter, [], 0⟩] scope pos) 0 it acc env)) := by rfl
section
variable {prog : Program} {w : World} {A : Around} {E : Value → Shared → Prop} {R : Result → Shared → Prop} {s : Shared}
theorem compStart_set {elt target iter ifs rest scope pos it acc env}
    (h0 : codeAny (model prog w) A (.compLoop (.SetComp elt (⟨target, iter, ifs, 0⟩ :: rest) scope pos) 0 it acc env) R s)
    (h : wpAny (model prog w) A (pyIter it) (fun it' s' => codeAny (model prog w) A (.compLoop (.SetComp elt (⟨target, iter, ifs, 0⟩ :: rest) scope pos) 0 it' acc env) R s')
      (notedBy (model prog w) A env fun x s' => R (.error x) s') s) :
    codeAny (model prog w) A (.compStart (.SetComp elt (⟨target, iter, ifs, 0⟩ :: rest) scope pos) 0 it acc env) R s := by
  refine codeAny_of_tree ?_
  show wpAny _ _ ((compStart (.SetComp elt (⟨target, iter, ifs, 0⟩ :: rest) scope pos) 0 it acc env).onRaise (fun x => do noteFrame x env; standAt theWindowsPlace)) _ _ s
  refine wpAny_notedAt ?_
  unfold compStart
  show wpAny _ _ (ask >>= _) _ _ s
  refine wpAny_bind (wpAny_askSetting (wpAny_ite ?_))
  split
  · first
      | exact wpAny_bind (wpAny_pure (wpAny_pure (And.intro rfl h0)))
      | exact wpAny_pure (And.intro rfl h0)
  · first
      | exact wpAny_bind (wpAny_rule (wpAny_bind (wpAny_standAt (wpAny_bind (wpAny_mono h (fun it' s' h' => wpAny_pure (And.intro rfl h')) fun _ _ x => x)))))
      | (refine wpAny_bind (wpAny_rule ?_); show wpAny _ _ (standAt iter.pos >>= _) _ _ s; exact wpAny_bind (wpAny_standAt (wpAny_bind (wpAny_mono h (fun it' s' h' => wpAny_pure (And.intro rfl h')) fun _ _ x => x))))
theorem compLoop_set {elt target iter : Expr} {scope : Scope} {pos : Pos} {it acc : Value} {env : Env} (I : Nat → Shared → Prop)
    (turn : ∀ n s, I n s → wpAny (model prog w) A (pyNext it) (fun r s₁ => match r with
      | none => R (.ok .next) s₁
      | some v => wpAny (model prog w) A (assign target env v) (fun _ s₂ => wpAny (model prog w) A (eval elt env) (fun x s₃ =>
          wpAny (model prog w) A (call (.builtin "set.add") [acc, x]) (fun _ s₄ => ∃ m, m < n ∧ I m s₄) (notedBy (model prog w) A env fun e s' => R (.error e) s') s₃)
          (notedBy (model prog w) A env fun e s' => R (.error e) s') s₂) (notedBy (model prog w) A env fun e s' => R (.error e) s') s₁) (notedBy (model prog w) A env fun e s' => R (.error e) s') s)
    (n : Nat) (h : I n s) (ht : ∀ v, letOwnedTupleGo target it v = pure () := by intro _; rfl) :
    codeAny (model prog w) A (.compLoop (.SetComp elt [⟨target, iter, [], 0⟩] scope pos) 0 it acc env) R s := by
  refine codeAny_loop rfl I (fun n s hI => ?_) n h
  show wpAny _ _ ((compTurn (.SetComp elt [⟨target, iter, [], 0⟩] scope pos) 0 it acc env).onRaise (fun x => do noteFrame x env; theTreesLotGoes x)) _ _ s
  refine wpAny_noted ?_
  rw [compTurn_set]
  refine wpAny_bind (wpAny_standAt (wpAny_bind (wpAny_mono (turn n s hI) (fun r s₁ h₁ => ?_) fun _ _ h' => h')))
  cases r with
  | none => exact wpAny_pure h₁
  | some v =>
    refine wpAny_bind (wpAny_of_eq (ht v) ?_)
    refine wpAny_bind (wpAny_mono h₁ (fun _ s₂ h₂ => wpAny_bind (wpAny_bind (wpAny_mono h₂ (fun x s₃ h₃ => wpAny_bind (wpAny_standAt (wpAny_bind (wpAny_mono h₃ (fun _ s₄ h₄ => wpAny_pure (wpAny_pure ⟨rfl, h₄⟩)) fun _ _ h' => h')))) fun _ _ h' => h'))) fun _ _ h' => h')
end
section
variable {prog : Program} {w : World} {A : Around} {E : Value → Shared → Prop} {s : Shared} {h₀ : Heap} {L : Addr} {m : Str → Option Value} {env : Env}
theorem SetComp_b {elt iter : Expr} {x : Str} {px : Pos} {scope : Scope} {cl : List (Str × Addr)} {pos : Pos} {Q : Value → Shared → Prop} (F₀ : Fr h₀ L s.heap m) (g : Nat → Bool)
    (hclos : closureFor scope env = pure cl) (hcell : ∀ y ∈ scope.names, y.2 ≠ .cell) (hkind : scope.kind = .function)
    (hnames : ∀ y ∈ scope.names, y.2 = .local → scope.names.lookup y.1 = some .local) (hx : scope.names.lookup x = some .local)
    (h : wpAny (model prog w) A (eval iter env) (fun xv s₁ => ∃ ax vs news, xv = .ref ax ∧ A.handled = none ∧ Fr h₀ L s₁.heap m ∧ News h₀ L s₁.heap news ∧ (ax, tobj vs) ∈ news ∧ vs.size ≤ sizeLine ∧
      (∀ i v I oI C oC D oD m₂ h tk (E' : Value → Shared → Prop), vs[i]? = some v → LCg.NsObj oC m₂ → m₂ x = some v → Fr h₀ L h m → News h₀ L h ((I, oI) :: (C, oC) :: (D, oD) :: news) →
        wpAny (model prog w) A (eval elt (compEnvC scope cl C env)) (fun y s₂ => ∃ h' tk', s₂ = { s₁ with heap := h', toks := tk' } ∧ y = .bool (g i) ∧ Fr h₀ L h' m ∧ News h₀ L h' ((I, oI) :: (C, oC) :: (D, oD) :: news)) E' { s₁ with heap := h, toks := tk }) ∧
      (∀ D led ep h tk, led = (!w.params.followText "set-order") → Fr h₀ L h m → News h₀ L h ((D, bset led ep ((List.range vs.size).any fun i => !g i) ((List.range vs.size).any g)) :: news) → (∀ p ∈ news, p.1 ≠ D) → Q (.ref D) { s₁ with heap := h, toks := tk })) E s)
    (hs : ∀ x, foldedSetIterable iter env x = pure x := by intro _; rfl) :
    wpAny (model prog w) A (eval (.SetComp elt [⟨.Name x px, iter, [], 0⟩] scope pos) env) Q E s := by
  show wpAny _ A (comprehension (.SetComp elt [⟨.Name x px, iter, [], 0⟩] scope pos) scope env _ (newSet (.type "set")) false (eval iter env)) _ _ s
  refine wpAny_comprehension_free (use := none) rfl hs hclos hkind hnames (wpAny_mono h (fun xv s₁ h₁ => ?_) fun _ _ e => e)
  obtain ⟨ax, vs, news, rfl, hh, F, N, hm, hsz, turn, fin⟩ := h₁
  have hl : s₁.heap.IsTuple ax vs := ⟨_, (N _ hm).1, rfl, _, rfl⟩
  have hlt : ax < s₁.heap.objs.size := Heap.lt_size (N _ hm).1
  refine wpAny_pyIter_tuple hl ?_
  unfold newSet
  refine wpAny_bind (wpAny_bind (wpAny_bind (wpAny_askSetting (wpAny_pure (wpAny_pure ?_)))))
  generalize hled : (!(model prog w).w.params.followText "set-order") = led
  refine wpAny_newObj_type ?_
  refine wpAny_newFunctionEnv hcell (by intro y hy; simp at hy) (fun h₁ hns₁ hsb₁ => ?_) hkind
  dsimp only at hns₁ hsb₁ ⊢
  generalize hH1 : s₁.heap.push { cls := .type "tuple_iterator", data := .fields #[.ref ax, .int 0 0] } = H1 at hns₁ hsb₁ ⊢
  have hI : H1.objs.size = s₁.heap.objs.size + 1 := by rw [← hH1, Heap.size_push]
  have old1 : ∀ b o, s₁.heap.get? b = some o → H1.get? b = some o := fun b o e => hH1 ▸ Heap.get?_push_of_some _ e
  have it1 : H1.IsTupleIter s₁.heap.objs.size ax 0 := ⟨_, hH1 ▸ Heap.get?_push_size _ rfl, rfl, rfl⟩
  generalize hH2 : H1.push { cls := .type "set", dict := none, data := .set #[] 0 (.fresh 0 0 led) } = H2 at hns₁ hsb₁ ⊢
  have hC : H2.objs.size = H1.objs.size + 1 := by rw [← hH2, Heap.size_push]
  have old2 : ∀ b o, H1.get? b = some o → H2.get? b = some o := fun b o e => hH2 ▸ Heap.get?_push_of_some _ e
  have dset : H2.get? H1.objs.size = some (bset led 0 false false) := hH2 ▸ Heap.get?_push_size _ rfl
  have old : ∀ b o, s₁.heap.get? b = some o → h₁.get? b = some o := fun b o e => hsb₁.extBut b o (Nat.ne_of_lt (by rw [hC, hI]; exact Nat.lt_succ_of_lt (Nat.lt_succ_of_lt (Heap.lt_size e)))) (Heap.get?_push_of_some _ (old2 _ _ (old1 _ _ e)))
  have fresh : ∀ a, s₁.heap.objs.size ≤ a → s₁.heap.get? a = none := fun a ha => by
    cases e : s₁.heap.get? a with
    | none => rfl
    | some o' => exact absurd (Heap.lt_size e) (Nat.not_lt.mpr ha)
  have fresh₀ : ∀ a, s₁.heap.objs.size ≤ a → h₀.get? a = none := fun a ha => by
    cases e : h₀.get? a with
    | none => rfl
    | some o' => have := F.keep a o' e; rw [fresh a ha] at this; cases this
  have hLlt : LT.lt (α := Nat) L s₁.heap.objs.size := F.ns.lt
  generalize hIe : s₁.heap.objs.size = I at *
  generalize hDe : H1.objs.size = D at *
  generalize hCe : H2.objs.size = C at *
  subst hI hC
  have hID : I ≠ I + 1 := by omega
  have hIC : I ≠ I + 1 + 1 := by omega
  have hDC : I + 1 ≠ I + 1 + 1 := by omega
  have hIL : I ≠ L := by omega
  have hDL : I + 1 ≠ L := by omega
  have hCL : I + 1 + 1 ≠ L := by omega
  have hI₀ := fresh₀ I (Nat.le_refl _)
  have hD₀ := fresh₀ (I + 1) (by omega)
  have hC₀ := fresh₀ (I + 1 + 1) (by omega)
  have ltn : ∀ p ∈ news, p.1 < I := fun p hp => hIe ▸ Heap.lt_size (N p hp).1
  have off : ∀ p ∈ news, p.1 ≠ I ∧ p.1 ≠ I + 1 ∧ p.1 ≠ I + 1 + 1 := fun p hp => by
    have : LT.lt (α := Nat) p.1 I := ltn p hp
    exact ⟨Nat.ne_of_lt this, Nat.ne_of_lt (by omega), Nat.ne_of_lt (by omega)⟩
  have hdset : h₁.get? (I + 1) = some (bset led 0 false false) := hsb₁.extBut _ _ hDC (Heap.get?_push_of_some _ dset)
  have hit : h₁.IsTupleIter I ax 0 := by
    obtain ⟨o, e, r⟩ := it1
    exact ⟨o, hsb₁.extBut _ _ hIC (Heap.get?_push_of_some _ (old2 _ _ e)), r⟩
  have W := Walks.tuple (prog := prog) (w := w) hh I ax (Nat.ne_of_lt hlt) vs
  have hCI : I + 1 + 1 ∉ [I, ax] := by
    intro hmm
    rcases List.mem_cons.mp hmm with e | e
    · exact hIC e.symm
    · have : LT.lt (α := Nat) ax I := hlt
      have e' := List.mem_singleton.mp e
      omega
  have hDI : I + 1 ∉ [I, ax] := by
    intro hmm
    rcases List.mem_cons.mp hmm with e | e
    · exact hID e.symm
    · have : LT.lt (α := Nat) ax I := hlt
      have e' := List.mem_singleton.mp e
      omega
  have loop : ∀ s₃ : Shared, s₃ = { s₁ with heap := h₁ } →
      codeAny (model prog w) A (.compLoop (.SetComp elt [⟨.Name x px, iter, [], 0⟩] scope pos) 0 (.ref I) (.ref (I + 1)) (compEnvC scope cl (I + 1 + 1) env))
        (compPost (model prog w) A E none Q (.ref (I + 1)) (I + 1 + 1)) s₃ := by
    rintro s₃ rfl
    refine compLoop_set
      (fun k s' => ∃ h' tk i m' ep, s' = { s₁ with heap := h', toks := tk } ∧ i ≤ vs.size ∧ k = vs.size + 1 - i ∧ (h'.IsTupleIter I ax i ∧ h'.IsTuple ax vs) ∧ Fr h₀ L h' m ∧ h'.Ns (I + 1 + 1) m' ∧
        h'.get? (I + 1) = some (bset led ep ((List.range i).any fun i => !g i) ((List.range i).any g)) ∧ News h₀ L h' news) ?_ (vs.size + 1)
      ⟨h₁, s₁.toks, 0, _, 0, rfl, Nat.zero_le _, rfl, ⟨hit, ⟨_, old _ _ (N _ hm).1, rfl, _, rfl⟩⟩, F.keeps old, hns₁, hdset, fun p hp => ⟨old _ _ (N p hp).1, (N p hp).2⟩⟩
    rintro k s' ⟨h', tk, i, m', ep, rfl, hi, rfl, hst', F', hn', hd', N'⟩
    by_cases hlt' : i < vs.size
    · refine W.item i _ _ _ hlt' hst' fun v h₂ tk₂ hPv hst₂ hk₂ => ?_
      refine wpAny_assign_Name (wpAny_storeName_local (lookup_relabel_local hx) (hn'.at' fun o e => hk₂ _ o (by simpa using Ne.symm hIC) e) (fun h₃ hn₃ hs₃ => ?_) (by simp [compEnvC, relabel, hkind]))
      have hk₂' : ∀ b o, b ≠ I → h'.get? b = some o → h₂.get? b = some o := fun b o hb e => hk₂ b o (by simpa using hb) e
      have F₃ : Fr h₀ L h₃ m := (LCg.fr_but F' hk₂ (Ne.symm hIL) hI₀).change hs₃ hCL hC₀
      have it₃ : h₃.IsTupleIter I ax (i + 1) := hst₂.1.extBut hs₃.extBut hIC
      obtain ⟨oI, heI, _⟩ := id it₃
      obtain ⟨oC, heC, hoC⟩ := LCg.ns_obj hn₃
      have hd₃ : h₃.get? (I + 1) = some _ := hs₃.extBut _ _ hDC (hk₂' _ _ (Ne.symm hID) hd')
      have N₃ : News h₀ L h₃ ((I, oI) :: (I + 1 + 1, oC) :: (I + 1, bset led ep ((List.range i).any fun i => !g i) ((List.range i).any g)) :: news) := fun p hp => by
        rcases List.mem_cons.mp hp with rfl | hp
        · exact ⟨heI, hIL, hI₀⟩
        rcases List.mem_cons.mp hp with rfl | hp
        · exact ⟨heC, hCL, hC₀⟩
        rcases List.mem_cons.mp hp with rfl | hp
        · exact ⟨hd₃, hDL, hD₀⟩
        · exact ⟨hs₃.extBut _ _ (off p hp).2.2 (hk₂' _ _ (off p hp).1 (N' p hp).1), (N' p hp).2⟩
      refine wpAny_mono (turn i v I oI (I + 1 + 1) oC (I + 1) _ _ h₃ _ _ hPv hoC (by simp) F₃ N₃) (fun y s₄ h₄ => ?_) fun _ _ e => e
      obtain ⟨h₄, tk₄, rfl, rfl, F₄, N₄⟩ := h₄
      have zI := (N₄ _ (.head _)).1
      have zC := (N₄ _ (.tail _ (.head _))).1
      have zD := (N₄ _ (.tail _ (.tail _ (.head _)))).1
      refine bset_add (b := g i) zD fun h₅ ep' hs₅ hd₅ => ?_
      refine ⟨vs.size + 1 - (i + 1), by omega, h₅, _, i + 1, _, ep', rfl, hlt', rfl, ⟨?_, ?_⟩, F₄.change hs₅ hDL hD₀, (hoC.ns zC).sameBut hs₅ (Ne.symm hDC), ?_, fun p hp => ⟨hs₅.extBut _ _ (off p hp).2.1 (N₄ p (.tail _ (.tail _ (.tail _ hp)))).1, (N' p hp).2⟩⟩
      · obtain ⟨o, e, r⟩ := it₃
        rw [heI] at e; cases e
        exact ⟨oI, hs₅.extBut _ _ hID zI, r⟩
      · exact ⟨_, hs₅.extBut _ _ (off _ hm).2.1 (N₄ _ (.tail _ (.tail _ (.tail _ hm)))).1, rfl, _, rfl⟩
      · rw [hd₅, List.range_succ, List.any_append, List.any_append]
        simp
    · have hin : i = vs.size := by omega
      subst hin
      refine W.done _ _ _ hst' fun h₂ tk₂ hk₂ => ?_
      have hk₂' : ∀ b o, b ≠ I → h'.get? b = some o → h₂.get? b = some o := fun b o hb e => hk₂ b o (by simpa using hb) e
      refine ⟨m', hn'.at' fun o e => hk₂' _ o (Ne.symm hIC) e, fun h'' hs'' => ?_⟩
      refine fin (I + 1) led ep h'' tk₂ hled.symm ((LCg.fr_but F' hk₂ (Ne.symm hIL) hI₀).change hs'' hCL hC₀) (fun p hp => ?_) fun p hp => (off p hp).2.1
      rcases List.mem_cons.mp hp with rfl | hp
      · exact ⟨hs''.extBut _ _ hDC (hk₂' _ _ (Ne.symm hID) hd'), hDL, hD₀⟩
      · exact ⟨hs''.extBut _ _ (off p hp).2.2 (hk₂' _ _ (off p hp).1 (N' p hp).1), (N' p hp).2⟩
  exact compStart_set (loop _ rfl) (W.self 0 _ _ _ ⟨hit, ⟨_, old _ _ (N _ hm).1, rfl, _, rfl⟩⟩ (loop _ rfl))
end
end Mine
end

noncomputable section
set_option maxRecDepth 100000
namespace Mine
open PySem PySem.W PyProof.Rows PySem.Calls
theorem entry_set_iter : entryFor table "set.__iter__" = some Builtin.«frozenset.__iter__» := entryFor_alias (id' := "frozenset.__iter__") (by kernel_rfl) rfl (by decide +kernel) (by kernel_rfl)
theorem slot_sit_next : Slot "set_iterator" "__next__" "set_iterator.__next__" :=
  .of (owner := "set_iterator") (n := "__next__") (by rw [typeLookup_type, builtinLookup_eq_fast]; kernel_rfl) (by decide +kernel) (by decide +kernel) (by decide +kernel)
    (by first | exact .inl (by decide +kernel) | exact .inr (by decide +kernel)) (by rw [isSubtype_type]; kernel_rfl)
theorem entry_sit_next : entryFor table "set_iterator.__next__" = some Builtin.«set_iterator.__next__» := entryFor_of_tree (by kernel_rfl)
theorem args_sit_next (a : Value) : argsOk "set_iterator.__next__" ⟨[a], []⟩ := by
  unfold argsOk; kernel_rfl
section
variable {prog : Program} {w : World} {A : Around} {E : Value → Shared → Prop} {s : Shared} {D I : Addr} {led f t : Bool} {ep : Nat}
theorem fits_bset : (btab led f t).fits (bes f t).size = true := by cases f <;> cases t <;> rfl
theorem setsByText_ {Q : Bool → Shared → Prop} (h : Q (w.params.followText "set-order") s) : wpAny (model prog w) A setsByText Q E s := by
  unfold setsByText
  exact wpAny_bind (wpAny_askSetting (wpAny_pure h))
theorem pyIter_bset {Q : Value → Shared → Prop} (ho : s.heap.get? D = some (bset led ep f t))
    (hQ : Q (.ref s.heap.objs.size) { s with heap := s.heap.push { cls := .type "set_iterator", data := .fields #[.int 0 0, .int 0 0, .ref D, .int (bes f t).size 0, .int ep 0] } }) :
    wpAny (model prog w) A (pyIter (.ref D)) Q E s := by
  have hT : s.TypeIs (.ref D) "set" := ⟨_, ho, rfl⟩
  refine wpAny_pyIter_slot hT F.slot_set_iter (wpAny_call_entry F.slot_set_iter hT entry_set_iter ?_ (F.args_set_iter_1 _))
  unfold Builtin.«frozenset.__iter__» Builtin.Frozenset.slot0 slotArgs
  simp only [List.isEmpty_nil, Bool.not_true, Bool.false_eq_true, ↓reduceIte, bind_assoc, List.length_nil, bne_self_eq_false]
  unfold Builtin.Frozenset.addrOf Builtin.Frozenset.sizeOf
  refine wpAny_bind (wpAny_pure ?_)
  try dsimp only
  refine wpAny_bind (wpAny_pure ?_)
  refine wpAny_bind (wpAny_bind (wpAny_setEntries_of ho rfl fits_bset (wpAny_pure ?_)))
  unfold setDrawn
  refine wpAny_bind (wpAny_bind (wpAny_setState_of ho rfl fits_bset ?_))
  refine wpAny_bind (setsByText_ (wpAny_pure ?_))
  rw [if_neg (fun hq => Bool.false_ne_true (Bool.and_eq_true _ _ ▸ hq).2)]
  refine wpAny_bind (wpAny_pure (wpAny_bind ?_))
  unfold setEpoch
  refine wpAny_bind (wpAny_setState_of ho rfl fits_bset (wpAny_pure ?_))
  exact wpAny_bind (wpAny_newObj_type (wpAny_pure ⟨_, rfl, "set_iterator", _, ⟨_, Heap.get?_push_size _ rfl, rfl⟩, slot_sit_next.lookup, hQ⟩))
abbrev sit (sl i : Nat) (D : Addr) (n ep : Nat) : Obj := { cls := .type "set_iterator", data := .fields #[.int sl 0, .int i 0, .ref D, .int n 0, .int ep 0] }
theorem setNext_a {sl i : Nat} {Q : Option (Value × Nat) → Shared → Prop} (ho : s.heap.get? D = some (bset true ep f t)) (hb : w.params.followText "set-order" = false)
    (h : Q (match (bes f t)[SetTable.below (bpl f t) sl]?, (bpl f t)[SetTable.below (bpl f t) sl]? with | some (_, x), some j => some (x, j + 1) | _, _ => none) s) :
    wpAny (model prog w) A (setNext D sl i ep) Q E s := by
  unfold setNext
  refine wpAny_bind (wpAny_setState_of ho rfl fits_bset ?_)
  refine wpAny_bind (setsByText_ ?_)
  rw [hb]
  simp only [Bool.false_eq_true, ↓reduceIte]
  split
  · rename_i hq
    exact absurd hq (fun hq => Bool.false_ne_true hq)
  · refine wpAny_bind ?_
    show wpAny _ A (pure ()) _ _ _
    exact wpAny_pure (wpAny_pure h)
theorem setNext_b {sl i : Nat} {Q : Option (Value × Nat) → Shared → Prop} (ho : s.heap.get? D = some (bset led ep f t)) (hb : w.params.followText "set-order" = true)
    (h : Q (((pickOrder (w.params.setOrder D ep) (bes f t))[i]?).map fun e => (e.2, sl)) s) :
    wpAny (model prog w) A (setNext D sl i ep) Q E s := by
  unfold setNext
  refine wpAny_bind (wpAny_setState_of ho rfl fits_bset ?_)
  refine wpAny_bind (setsByText_ ?_)
  rw [hb]
  simp only [↓reduceIte, bne_self_eq_false, Bool.false_eq_true]
  unfold setWalk
  refine wpAny_bind (wpAny_bind (wpAny_setState_of ho rfl fits_bset ?_))
  refine wpAny_bind (setsByText_ ?_)
  rw [hb]
  simp only [↓reduceIte]
  exact wpAny_bind (wpAny_askSetting (wpAny_pure (wpAny_pure h)))
theorem sit_next {sl i : Nat} {r : Option (Value × Nat)} {Q : Option Value → Shared → Prop} (hh : A.handled = none) (hI : s.heap.get? I = some (sit sl i D (bes f t).size ep)) (ho : s.heap.get? D = some (bset led ep f t))
    (hsn : ∀ (A' : Around) (Q : Option (Value × Nat) → Shared → Prop) (E : Value → Shared → Prop), Q r s → wpAny (model prog w) A' (setNext D sl i ep) Q E s)
    (hs : ∀ x nx h', r = some (x, nx) → Heap.SameBut I s.heap h' → h'.get? I = some (sit nx (i + 1) D (bes f t).size ep) → Q (some x) { s with heap := h' })
    (hn : r = none → ∀ h', Heap.ExtBut I s.heap h' → Q none { s with heap := h' }) : wpAny (model prog w) A (pyNext (.ref I)) Q E s := by
  have hT : s.TypeIs (.ref I) "set_iterator" := ⟨_, hI, rfl⟩
  unfold pyNext
  refine wpAny_bind (wpAny_attempt (wpAny_callSpecial?_slot (name := Str.ofString "__next__") hT slot_sit_next
    (wpAny_call_entry slot_sit_next hT entry_sit_next ?_ (args_sit_next _))))
  unfold Builtin.«set_iterator.__next__» slotArgs
  simp only [List.isEmpty_nil, Bool.not_true, Bool.false_eq_true, ↓reduceIte, bind_assoc, List.length_nil, bne_self_eq_false]
  refine wpAny_bind (wpAny_pure ?_)
  refine wpAny_bind (wpAny_fieldsOf hI rfl ?_)
  dsimp only
  refine wpAny_bind (wpAny_setEntries_of ho rfl fits_bset ?_)
  rw [if_neg (by simp)]
  refine wpAny_bind (hsn _ _ _ ?_)
  cases r with
  | some p =>
    obtain ⟨x, nx⟩ := p
    dsimp only
    refine wpAny_bind (wpAny_setField hI rfl (by simp) ?_)
    have g1 := Heap.get?_update_self (Obj.mapFields (·.setIfInBounds 0 (rawInt nx))) hI (Obj.isFreed_of_fields (Obj.data_mapFields rfl _))
    refine wpAny_bind (wpAny_setField g1 rfl (by simp) ?_)
    refine wpAny_pure ⟨_, rfl, wpAny_pure (hs x nx _ rfl ((Heap.SameBut.update ..).trans (Heap.SameBut.update ..)) ?_)⟩
    exact Heap.get?_update_self _ g1 (Obj.isFreed_of_fields (Obj.data_mapFields rfl _))
  | none =>
    dsimp only
    refine wpAny_bind (wpAny_setField hI rfl (by simp) ?_)
    show wpAny _ _ (newExc (.type "StopIteration") [] >>= _) _ _ _
    refine wpAny_bind ?_
    simp only [newExc, newTuple]
    refine wpAny_bind (wpAny_newObj_type ?_ (by size_fits))
    refine wpAny_bind (m := firstArgMember _ _) (wpAny_of_eq (a := Value.none) (by first | rfl | (simp only [firstArgMember]; rfl)) ?_)
    refine wpAny_newObj_type ?_ (by size_fits)
    simp only [raiseNew]
    refine wpAny_bind (wpAny_handled ?_)
    first | rw [show A.in1.handled = none from hh] | rw [hh]
    refine wpAny_bind (wpAny_pure (wpAny_throw ?_))
    refine wpAny_bind (wpAny_isInstance (T := "StopIteration") (b := true) ⟨_, Heap.get?_push_size _ rfl, rfl⟩ isSubtype_stop ?_)
    exact wpAny_pure (hn rfl _ (((Heap.SameBut.update ..).extBut.push _).push _))
theorem pick1 {α : Type} (next : Nat → Nat) (a : α) : pickOrder next #[a] = #[a] := by
  simp [pickOrder, pickOrder.go, Nat.mod_one]
theorem pick2 {α : Type} (next : Nat → Nat) (a b : α) : pickOrder next #[a, b] = #[a, b] ∨ pickOrder next #[a, b] = #[b, a] := by
  have h2 : next 0 % 2 = 0 ∨ next 0 % 2 = 1 := by omega
  rcases h2 with h | h
  · left; simp [pickOrder, pickOrder.go, h, Nat.mod_one]
  · right; simp [pickOrder, pickOrder.go, h, Nat.mod_one]
theorem unpack_set {Q : List Value → Shared → Prop} (hh : A.handled = none) (ho : s.heap.get? D = some (bset led ep f t)) (hled : led = (!w.params.followText "set-order"))
    (hne : f = true ∨ t = true)
    (h1 : (f && t) = false → ∀ h', Heap.ExtBut s.heap.objs.size s.heap h' → Q [.bool t] { s with heap := h' })
    (h2 : (f && t) = true → ∀ h' tk e h₁, Heap.ExtBut s.heap.objs.size s.heap h₁ → Heap.NewExc h₁ h' e "ValueError" → E (.ref e) { s with heap := h', toks := tk }) :
    wpAny (model prog w) A (unpackItems (.ref D) 1 none) Q E s := by
  have hT : s.TypeIs (.ref D) "set" := ⟨_, ho, rfl⟩
  have hDI : D ≠ s.heap.objs.size := Nat.ne_of_lt (Heap.lt_size ho)
  unfold unpackItems
  refine wpAny_bind ?_
  unfold notIterableAtAll
  refine wpAny_bind (wpAny_specialOf hT F.slot_set_iter.lookup ?_)
  refine wpAny_pure ?_
  simp only [Bool.false_eq_true, if_false]
  refine wpAny_bind (wpAny_holding (pyIter_bset ho ?_))
  have hI0 : (s.heap.push (sit 0 0 D (bes f t).size ep)).get? s.heap.objs.size = some (sit 0 0 D (bes f t).size ep) := Heap.get?_push_size _ rfl
  have hD0 : (s.heap.push (sit 0 0 D (bes f t).size ep)).get? D = some (bset led ep f t) := Heap.get?_push_of_some _ ho
  have E0 : Heap.ExtBut s.heap.objs.size s.heap (s.heap.push (sit 0 0 D (bes f t).size ep)) := fun b o _ e => Heap.get?_push_of_some _ e
  have key : ∃ x nx, (∀ (h' : Heap), h'.get? D = some (bset led ep f t) → ∀ (A' : Around) (Q : Option (Value × Nat) → Shared → Prop) (E : Value → Shared → Prop), Q (some (x, nx)) { s with heap := h' } → wpAny (model prog w) A' (setNext D 0 0 ep) Q E { s with heap := h' }) ∧
      ∃ r, (∀ (h' : Heap), h'.get? D = some (bset led ep f t) → ∀ (A' : Around) (Q : Option (Value × Nat) → Shared → Prop) (E : Value → Shared → Prop), Q r { s with heap := h' } → wpAny (model prog w) A' (setNext D nx 1 ep) Q E { s with heap := h' }) ∧
      ((f && t) = false → x = .bool t ∧ r = none) ∧ ((f && t) = true → r.isSome = true) := by
    cases hb : w.params.followText "set-order" with
    | false =>
      rw [hb] at hled
      have hled' : led = true := hled
      subst hled'
      clear hled
      cases f <;> cases t
      · simp at hne
      · exact ⟨.bool true, 2, fun h' hd A' Q E hq => setNext_a hd hb hq, none, fun h' hd A' Q E hq => setNext_a hd hb hq, fun _ => ⟨rfl, rfl⟩, fun q => by simp at q⟩
      · exact ⟨.bool false, 1, fun h' hd A' Q E hq => setNext_a hd hb hq, none, fun h' hd A' Q E hq => setNext_a hd hb hq, fun _ => ⟨rfl, rfl⟩, fun q => by simp at q⟩
      · exact ⟨.bool false, 1, fun h' hd A' Q E hq => setNext_a hd hb hq, some (.bool true, 2), fun h' hd A' Q E hq => setNext_a hd hb hq, fun q => by simp at q, fun q => rfl⟩
    | true =>
      cases f <;> cases t
      · simp at hne
      · exact ⟨.bool true, 0, fun h' hd A' Q E hq => setNext_b hd hb (by rw [bes, pick1]; exact hq), none, fun h' hd A' Q E hq => setNext_b hd hb (by rw [bes, pick1]; exact hq), fun _ => ⟨rfl, rfl⟩, fun q => by simp at q⟩
      · exact ⟨.bool false, 0, fun h' hd A' Q E hq => setNext_b hd hb (by rw [bes, pick1]; exact hq), none, fun h' hd A' Q E hq => setNext_b hd hb (by rw [bes, pick1]; exact hq), fun _ => ⟨rfl, rfl⟩, fun q => by simp at q⟩
      · rcases pick2 (w.params.setOrder D ep) ((0 : Int), Value.bool false) (1, .bool true) with hp | hp
        · exact ⟨.bool false, 0, fun h' hd A' Q E hq => setNext_b hd hb (by rw [bes, hp]; exact hq), some (.bool true, 0), fun h' hd A' Q E hq => setNext_b hd hb (by rw [bes, hp]; exact hq), fun q => by simp at q, fun q => rfl⟩
        · exact ⟨.bool true, 0, fun h' hd A' Q E hq => setNext_b hd hb (by rw [bes, hp]; exact hq), some (.bool false, 0), fun h' hd A' Q E hq => setNext_b hd hb (by rw [bes, hp]; exact hq), fun q => by simp at q, fun q => rfl⟩
  obtain ⟨x, nx, k1, r, k2, kf, kt⟩ := key
  refine wpAny_bind (wpAny_holding ?_)
  show wpAny _ _ (pyNext (.ref s.heap.objs.size) >>= _) _ _ _
  refine wpAny_bind (sit_next (s := { s with heap := _ }) hh hI0 hD0 (k1 _ hD0) (fun x' nx' h' e sb hI1 => ?_) fun e => nomatch e)
  cases e
  refine wpAny_bind (wpAny_holding (wpAny_pure (wpAny_pure ?_)))
  rw [if_neg (by simp)]
  have hD1 : h'.get? D = some (bset led ep f t) := sb.extBut _ _ hDI hD0
  have E1 : Heap.ExtBut s.heap.objs.size s.heap h' := fun b o hb e => sb.extBut b o hb (E0 b o hb e)
  refine wpAny_bind (wpAny_holding ?_)
  refine sit_next (s := { s with heap := h' }) hh hI1 hD1 (k2 _ hD1) (fun x' nx' h'' e sb' _ => ?_) (fun e h'' eb => ?_)
  · have hft : (f && t) = true := by
      cases q : (f && t) with
      | true => rfl
      | false => have := (kf q).2; rw [this] at e; cases e
    rw [if_pos (show (some x').isSome = true from rfl)]
    refine wpAny_bind (wpAny_rule (wpAny_bind ?_))
    exact wpAny_raiseErrorMade plainExc_ValueError hh fun h3 tk e hx => h2 hft h3 tk e h'' (fun b o hb e => sb'.extBut b o hb (E1 b o hb e)) hx
  · have hft : (f && t) = false := by
      cases q : (f && t) with
      | false => rfl
      | true => have := kt q; rw [e] at this; cases this
    rw [if_neg (by simp)]
    refine wpAny_pure ?_
    rw [(kf hft).1]
    exact h1 hft h'' fun b o hb e => eb b o hb (E1 b o hb e)
end
end Mine
end

noncomputable section
open PySem PySem.W PyProof.Rows
set_option maxRecDepth 100000
set_option maxHeartbeats 8000000
namespace Mine
theorem fspath (w : World) (mean : ExcName → Option Value) (mg mb : Str → Option Value) (news : List (Addr × Obj)) (x : Str) (tx : Tok) :
   CbClaim Challenge.rw_pd0126_01.row.prog w (Mine.hd.heap_39 w.params) Mine.hd.view_39 (looseW Mine.hd.view_39 [Str.ofString "_twin_re_1", Str.ofString "_twin_re_2"]) mean mg mb 111 news [] True [Value.str x tx] (fun _ => Value.str x tx) := by
  w_top off
  k_fill
  dsimp only [CbClaim, CbLists, CbRet]
  intros
  rename_i hret
  refine wpAny_call ?_
  k_dflt cell_enter
  k_steps
  rename (News _ _ _ _) => N1
  refine issub_str (N1 _ (List.Mem.head _)).1 ?_
  k_steps
  rename (News _ _ _ _) => N2
  exact hret 0 _ _ (by assumption) (cb_drop N2 fun p hp => List.mem_cons_of_mem _ hp)
end Mine
end

noncomputable section
open PySem PySem.W PyProof.Rows
set_option maxRecDepth 100000
set_option maxHeartbeats 8000000
namespace Mine
def Cm (w : World) (mean : ExcName → Option Value) (mg mb : Str → Option Value) (f : Addr) (news : List (Addr × Obj)) (vs : List Value) (Post : Heap → List Env → Heap → Addr → (Str → Option Value) → Shared → (Value → Shared → Prop) → (Value → Shared → Prop) → Prop) : Prop :=
  ∀ (dp un : Nat) (gd : Option (List Code)) (cn : Str) (cs : Scope) (a : Addr) (ccd : Value) (cl : List (Str × Addr)) (outer : List Env) (A₀ : Around) (base h₀ : Heap) (L : Addr) (m : Str → Option Value) (s : Shared) (Q E : Value → Shared → Prop),
    Below A₀ base outer h₀ → Fr h₀ L s.heap m → (Mine.hd.heap_39 w.params).In h₀ → News h₀ L s.heap news → Top Mine.hd.view_39 (looseW Mine.hd.view_39 [Str.ofString "_twin_re_1", Str.ofString "_twin_re_2"]) mean mg mb h₀ → (Mine.hd.heap_39 w.params).In base → Top Mine.hd.view_39 (looseW Mine.hd.view_39 [Str.ofString "_twin_re_1", Str.ofString "_twin_re_2"]) mean mg mb base → cs.kind = .function →
    dp + 10 < recursionLimit → un + 100 < cLine → Post base (envX cn cs L a ccd cl :: outer) h₀ L m s Q E →
      wpAny (model Challenge.rw_pd0126_01.row.prog w) (ktrTop dp un gd cn cs L a ccd cl outer) (call (.ref f) vs) Q E s
/-- the call raises ValueError with these words -/
def Raises (news : List (Addr × Obj)) (msg : Str) (base : Heap) (stack : List Env) (h₀ : Heap) (L : Addr) (m : Str → Option Value) (s : Shared) (E : Value → Shared → Prop) : Prop :=
  ∀ G h' tk' e t u, Fr h₀ L G m → RaisedS base G stack e (.type "ValueError") t [.str msg u] news h' → G.UpToSlots h' → E (.ref e) { s with heap := h', toks := tk' }
theorem raisedS_sub {base G : Heap} {l : List Env} {e t : Addr} {cls : Value} {vs : List Value} {news news' : List (Addr × Obj)} {h : Heap} (R : RaisedS base G l e cls t vs news h) (hs : ∀ p ∈ news', p ∈ news) : RaisedS base G l e cls t vs news' h := by
  obtain ⟨⟨B, a, b, c, d⟩, f⟩ := R
  exact ⟨⟨B, a, b, fun q hq => c q (hs q hq), d⟩, f⟩
theorem commonpath (w : World) (mean : ExcName → Option Value) (mg mb : Str → Option Value) (news : List (Addr × Obj)) (D : Addr) (vs : List Value) (xs : List Str) (nD : Nat) (hv : StrsAre vs xs) (hD : (D, lobj vs.toArray nD) ∈ news) (hn : xs.length ≤ 100) (hlen : ∀ x ∈ xs, x.length ≤ 1000) :
   Cm w mean mg mb 123 news [Value.ref D] (fun base stack h₀ L m s Q E => (xs = [] → Raises news (Str.ofString "commonpath() arg is an empty sequence") base stack h₀ L m s E) ∧
     (xs ≠ [] → (relA xs && absA xs) = true → Raises news (Str.ofString "Can't mix absolute and relative paths") base stack h₀ L m s E) ∧
     (xs ≠ [] → (relA xs && absA xs) = false → ∀ t h' tk', Fr h₀ L h' m → News h₀ L h' news → Q (.str (cpS xs) t) { s with heap := h', toks := tk' })) := by
  unfold Cm
  w_top off
  k_fill
  intro dp un gd cn cs a ccd cl outer A₀ base h₀ L m s Q E hB hF hX hN hT XB TB hk hdp hun hret
  refine wpAny_call ?_
  (k_dflt (refine' code_defC ?k1 ?k2 ?k3 ?k4 ?k5 ?kA ?kF ?kK ?k6 ?k7 ?k8 ?k9 ?kB ?kD ?_ ?c2 ?c3 ?c4; (case kA => exact rfl); (case kF => exact rfl); (case kK => assumption); (case k1 => k_asm); (case k2 => k_asm); (case k3 => k_asm); (case k4 => k_asm); (case k5 => k_asm); (case k6 => k_is); (case k7 => k_is); (case k8 => ktr_room); (case k9 => exact BindsTo.of_eq rfl); (case kB => exact rfl); (case kD => decide +kernel); (case c2 => exact rfl); (case c3 => exact rfl); (case c4 => exact rfl)))
  k_whole
  intro g' L' h' tk' cells' FG' F' N' Y' B' X' T' l1
  k_cells Y'
  (try simp only [List.cons_append, List.nil_append] at N')
  (try dsimp only)
  (try k_fold)
  k_steps
  refine map_N F' N' (List.Mem.tail _ (List.Mem.tail _ hD)) ?_
  intro Mp T it h2 F2 N2 hne off
  clear F' N'
  k_steps
  refine tuple_map (nT := 0) rfl (by rw [strsAre_length hv]; omega) (.tail _ (.tail _ hD)) off hne ?hf F2 N2 rfl rfl ?_
  case hf =>
    intro v hvm s' nw Q' E' Fx Nx ret
    obtain ⟨x, t, rfl, _⟩ := strsAre_mem hv v hvm
    exact fspath w mean mg mb nw x t _ _ _ _ _ _ _ _ _ _ _ _ _ _ _ _ _ B' Fx X' Nx T' rfl trivial (by ktr_room) (by ktr_units) (fun _ h' tk' F N => ret h' tk' F N)
  intro D2 h3 tk3 F3 N3 hlt3
  clear F2 N2
  k_steps
  rename (News _ _ _ _) => N4
  refine ktl_truthyK N4 (List.Mem.head _) (by rw [strsAre_length hv]; omega) ?_
  cases hv with
  | nil =>
    rw [if_pos (by rfl)]
    iterate 2 walk1
    refine Raise_madeB PySem.F.excCall_ValueError PySem.F.excRaise_ValueError rfl ?_
    iterate 1 walk1
    refine ⟨rfl, ?_⟩
    iterate 3 walk1
    refine ⟨(by show 1 ≤ sizeLine; decide), fun h5 e5 hx5 => ?_⟩
    rename (Fr g' L' _ _) => F4
    show wpAny _ _ (leaving _ _) _ _ _
    refine leave_raiseX B' (Heap.MadeExc.of hx5) F4 N4 rfl rfl fun h6 t6 R6 U6 => ?_
    exact hret.1 rfl g' h6 _ e5 t6 _ FG' (raisedS_sub R6 fun p hp => .tail _ (.tail _ (.tail _ hp))) U6
  | @cons x0 t0 vs1 xs1 hv' =>
    rw [if_neg (by simp)]
    (iterate 12 (first | walk1 | (dsimp only; walk1)))
    refine item_tupleT (j := 0) ⟨_, (N4 _ (.head _)).1, rfl, 0, rfl⟩ (by decide) (by decide) (by simp [seqIndex?]) rfl ?_
    (iterate 10 (first | walk1 | (dsimp only; walk1)))
    rename (Fr g' L' _ _) => F4
    have hl1 : ∀ p ∈ news, p.1 < D2 := fun p hp => hlt3 p (.tail _ (.tail _ hp))
    have hl2 : L' + 1 < D2 := hlt3 _ (.tail _ (.head _))
    have hl3 : L' + 1 + 1 < D2 := hlt3 _ (.head _)
    refine store_cell (cl := cellsFrom (L' + 1) _ []) (c := L' + 1) (pre := [_, _]) F4 N4 rfl (by assumption) ?p1 ?p2 ?_ rfl rfl
    case p1 => intro p hp; rcases List.mem_cons.mp hp with rfl | hp; exact Nat.ne_of_gt hl2; rw [List.mem_singleton.mp hp]; exact Nat.ne_of_gt (Nat.lt_succ_self _)
    case p2 => intro p hp; exact Nat.ne_of_lt (Nat.lt_succ_of_lt (l1 p hp))
    intro h5 oS F5 N5 dS
    clear F4 N4
    (iterate 3 (first | walk1 | (dsimp only; walk1)))
    refine store_cell (cl := cellsFrom (L' + 1) _ []) (c := L' + 1 + 1) (pre := [_]) F5 N5 rfl (by assumption) ?p1 ?p2 ?_ rfl rfl
    case p1 => intro p hp; rw [List.mem_singleton.mp hp]; exact Nat.ne_of_gt hl3
    case p2 => intro p hp; rcases List.mem_cons.mp hp with rfl | hp; exact Nat.ne_of_lt (Nat.lt_succ_self _); exact Nat.ne_of_lt (Nat.lt_succ_of_lt (Nat.lt_succ_of_lt (l1 p hp)))
    intro h6 oC F6 N6 dC
    clear F5 N5
    simp only [List.cons_append, List.nil_append] at N6
    (iterate 2 (first | walk1 | (dsimp only; walk1)))
    refine wpAny_Try_except ?_
    (iterate 2 (first | walk1 | (dsimp only; walk1)))
    have N6' : News g' L' h6 ((D2, tobj (Value.str x0 t0 :: vs1).toArray) :: (L' + 1 + 1, oC) :: (L' + 1, oS) :: news) := N6
    clear N6
    k_dflt (refine Assign_ListComp_tup (F₀ := F6) (by rfl) (by with_unfolding_all rfl) (by with_unfolding_all rfl) (by decide) (by rfl) (by decide) (by rfl) (by rfl) (by rfl) ?_)
    (iterate 1 (first | walk1 | (dsimp only; walk1)))
    refine ⟨D2, _, _, rfl, rfl, F6, N6', .head _, ?sz, fun s₂ hs2 => ?_⟩
    case sz => exact Nat.le_trans (by simpa [strsAre_length hv'] using hn : (Value.str x0 t0 :: vs1).toArray.size ≤ 100) (by decide)
    obtain ⟨hh2, rfl⟩ := hs2
    refine comp_rest (fun i ys nw => Sub ((D2, tobj (Value.str x0 t0 :: vs1).toArray) :: (L' + 1 + 1, oC) :: (L' + 1, oS) :: news) nw ∧ LL nw ys (((x0 :: xs1).take i).map (fun x => Txt.split x (Str.ofString "/")))) ⟨fun p hp => hp, .nil⟩ ?fin ?turn
    case turn =>
      rintro i ys nw v I oI C oC' D m₂ h tk E' hi ⟨hsub, hls⟩ hv hC hx Fc Nc offc nec
      have N1 := turn_news Nc (hsub _ (.tail _ (.tail _ (.head _))))
      obtain ⟨xv, tv, rfl, hxv⟩ := strsAre_at (StrsAre.cons x0 t0 hv') (by simpa using hv)
      show wpAny _ _ _ _ _ _
      (iterate 8 (first | walk1 | (dsimp only; walk1)))
      refine splitN1 Fc N1 (by decide) ?_ (by have := hlen _ (List.mem_of_getElem? hxv); exact Nat.le_trans (Nat.add_le_add_right this 2) (by decide))
      intro l h' k el Fl Nl
      exact compEnd_made Fl N1 (Nat.le_refl _) Nl offc (.tail _ (hsub _ (.head _))) ⟨fun p hp => .tail _ (hsub p hp), by
        rw [take_succ_at hxv, List.map_append]
        exact (hls.mono fun p hp => .tail _ hp).snoc ⟨_, _, _, rfl, .head _, by show StrsAre _ (Txt.split xv _); rw [← el]; exact strsAre_of l⟩⟩
    case fin =>
      rintro ys nw ⟨hsub, hls⟩
      have hfull : List.take (Value.str x0 t0 :: vs1).toArray.size (x0 :: xs1) = x0 :: xs1 := List.take_of_length_le (by simp [strsAre_length hv'])
      rw [hfull] at hls
      intro D3 h7 tk7 F7 N7 off7
      iterate 1 (first | walk1 | (dsimp only; walk1))
      refine wpAny_Try_except ?_
      (iterate 2 (first | walk1 | (dsimp only; walk1)))
      k_dflt (refine SetComp_b F7 (fun i => Txt.startswith ((x0 :: xs1).getD i (⟨#[]⟩)) (Str.ofString "/")) (by with_unfolding_all rfl) (by decide) (by rfl) (by decide) (by rfl) ?_)
      iterate 1 (first | walk1 | (dsimp only; walk1))
      refine ⟨D2, _, _, rfl, rfl, F7, N7, .tail _ (hsub _ (.head _)), ?sz, ?turn, ?fin⟩
      case sz => exact Nat.le_trans (by simpa [strsAre_length hv'] using hn : (Value.str x0 t0 :: vs1).toArray.size ≤ 100) (by decide)
      case turn =>
        intro i v I oI C oC D' oD m₂ h tk E' hv hC hx Fc Nc
        have N1 := turn_news Nc (.tail _ (hsub _ (.tail _ (.tail _ (.head _)))))
        obtain ⟨xv, tv, rfl, hxv⟩ := strsAre_at (StrsAre.cons x0 t0 hv') (by simpa using hv)
        iterate 10 (first | walk1 | (dsimp only; walk1))
        refine ⟨?_, Fc, Nc⟩
        rw [List.getD_eq_getElem?_getD, hxv]
        rfl
      case fin =>
        intro D4 led ep h8 tk8 hled F8 N8 hne8
        have hD4 : h8.get? D4 = some _ := (N8 _ (.head _)).1
        have hsz : (Value.str x0 t0 :: vs1).toArray.size = (x0 :: xs1).length := by simp [strsAre_length hv']
        rw [hsz] at N8 hD4
        show wpAny _ _ (standAt _ >>= fun _ => unpack _ _) _ _ _
        refine wpAny_bind (wpAny_standAt ?_)
        unfold unpack
        refine wpAny_bind (wpAny_holding ?_)
        refine unpack_set rfl hD4 hled ?_ ?_ ?_
        · simp only [List.any_eq_true, List.mem_range]
          by_cases q : Txt.startswith ((x0 :: xs1).getD 0 (⟨#[]⟩)) (Str.ofString "/") = true
          · exact .inr ⟨0, by simp, q⟩
          · exact .inl ⟨0, by simp, by simpa using q⟩
        · intro hft h9 e9
          refine wpAny_bind (wpAny_holding ?_)
          have F9 := F8.extBut e9 (Nat.le_refl _)
          refine PyProof.Rows.assign_Name ?_
          have N9 : News g' L' h9 ((D3, lobj ys.toArray ys.length) :: nw) := fun p hp => ⟨e9 _ _ (Nat.ne_of_lt (Heap.lt_size (N8 p (.tail _ hp)).1)) (N8 p (.tail _ hp)).1, (N8 p (.tail _ hp)).2⟩
          clear N8
          (iterate 2 (first | walk1 | (dsimp only; walk1)))
          (iterate 3 (first | walk1 | (dsimp only; walk1)))
          (try clear F8)
          rename (Fr g' L' _ _) => F9
          rename (News g' L' _ _) => N9
          k_dflt (refine LCg.Assign_ListComp_U (F₀ := F9) (by rfl) (by with_unfolding_all rfl) (by with_unfolding_all rfl) (by decide) (by rfl) (by decide) (by rfl) (by rfl) (by rfl) ?_)
          iterate 1 (first | walk1 | (dsimp only; walk1))
          refine LCg.CompSrc.ledger rfl F9 N9 (.head _) ?sz fun g9 => ?_
          case sz => exact Nat.le_trans (by rw [List.size_toArray, hls.length, List.length_map]; exact hn : ys.toArray.size ≤ 100) (by decide)
          refine comp_rest (fun i zs nw2 => Sub ((D3, lobj ys.toArray ys.length) :: nw) nw2 ∧ LL nw2 zs (((x0 :: xs1).take i).map partsS)) ⟨fun p hp => hp, .nil⟩ ?fin ?turn
          case turn =>
            rintro i zs nw2 v I oI C oC' Da m₂ h tk E' hi ⟨hsub2, hls2⟩ hv hC hx Fc Nc offc nec
            obtain ⟨cs, hcs, ac, us, nc, rfl, mc, hus⟩ := hls.at (by simpa using hv)
            have N1 := turn_news Nc (hsub2 _ (.tail _ (hsub _ (.tail _ (.head _)))))
            have hmc : (ac, lobj us.toArray nc) ∈ nw2 := hsub2 _ (.tail _ mc)
            k_dflt (refine LCt.ListComp_T (F₀ := Fc) (by with_unfolding_all rfl) (by decide) (by rfl) (by decide) (by rfl) ?_)
            (iterate 1 (first | walk1 | (dsimp only; walk1)))
            refine LCt.CompSrcT.ledger (k := nc) rfl Fc N1 (.tail _ (.tail _ (.tail _ (.tail _ hmc)))) ?sz fun g10 => ?_
            case sz =>
              rw [List.getElem?_map, Option.map_eq_some_iff] at hcs
              obtain ⟨xv, hxv, rfl⟩ := hcs
              exact Nat.le_trans (by rw [List.size_toArray, strsAre_length hus]; exact Nat.le_trans (split_len xv) (Nat.succ_le_succ (hlen xv (List.mem_of_getElem? hxv))) : us.toArray.size ≤ 1001) (by decide)
            refine comp_restT (fun j ws nw3 => nw3 = (I, oI) :: (C, oC') :: (Da, LCg.lst zs) :: (L' + 1 + 1, oC) :: nw2 ∧ StrsAre ws ((cs.take j).filter (fun c => !(c.length == 0) && c != Str.ofString "."))) ⟨rfl, .nil⟩ ?fin2 ?turn2
            case turn2 =>
              rintro j ws nw3 v I2 oI2 C2 oC2 D2' m3 h3' tk3' E3 hj ⟨rfl, hws⟩ hv2 hC2 hx2 Fd Nd offd ned
              obtain ⟨cv, tcv, rfl, hcv⟩ := strsAre_at hus (by simpa using hv2)
              (iterate 3 (first | walk1 | (dsimp only; walk1)))
              have hcl : cv.length ≤ 1000 := by
                rw [List.getElem?_map, Option.map_eq_some_iff] at hcs
                obtain ⟨xv, hxv, rfl⟩ := hcs
                exact Nat.le_trans (split_mem_len (List.mem_of_getElem? hcv)) (hlen xv (List.mem_of_getElem? hxv))
              refine PyProof.Rows.SBL.truthy (by show (cv.length : Int) < 9223372036854775808; omega) ?_
              by_cases hz : ((cv.length : Int) != 0) = true
              · rw [if_pos hz]
                (iterate 5 (first | walk1 | (dsimp only; walk1)))
                refine wpAny_truthy_bool ?_
                have hsrc : LCg.SrcAt g' ac us.toArray ((I, oI) :: (C, oC') :: (Da, LCg.lst zs) :: (L' + 1 + 1, oC) :: nw2) := .inr ⟨_, .tail _ (.tail _ (.tail _ (.tail _ hmc))), rfl, _, rfl⟩
                have hz0 : (!(cv.length == 0)) = true := by
                  have : ¬ cv.length = 0 := by simpa using hz
                  simp [this]
                by_cases hd : (cv != Str.ofString ".") = true
                · rw [if_pos hd]
                  (iterate 3 (first | walk1 | (dsimp only; walk1)))
                  refine ⟨_, _, _, rfl, Fd, Nd, offd, hsrc, rfl, ?_⟩
                  rw [take_succ_at hcv, List.filter_append]
                  have hz' : (!(cv.length == 0) && cv != Str.ofString ".") = true := by rw [hz0, hd]; rfl
                  simp only [List.filter, hz']
                  exact strsAre_snoc hws
                · rw [if_neg hd, if_neg (by decide)]
                  refine ⟨_, _, _, rfl, Fd, Nd, offd, hsrc, rfl, ?_⟩
                  rw [take_succ_at hcv, List.filter_append]
                  have hz' : (!(cv.length == 0) && cv != Str.ofString ".") = false := by rw [hz0]; simpa using hd
                  simpa [List.filter, hz'] using hws
              · rw [if_neg hz, if_neg (by decide)]
                have hz' : (!(cv.length == 0) && cv != Str.ofString ".") = false := by
                  have : cv.length = 0 := by simpa using hz
                  rw [this]; rfl
                refine ⟨_, _, _, rfl, Fd, Nd, offd, .inr ⟨_, .tail _ (.tail _ (.tail _ (.tail _ hmc))), rfl, _, rfl⟩, rfl, ?_⟩
                rw [take_succ_at hcv, List.filter_append]
                simpa [List.filter, hz'] using hws
            case fin2 =>
              rintro ws nw3 ⟨rfl, hws⟩ D5 h5' tk5 F5 N5 off5
              rw [show List.take us.toArray.size cs = cs from List.take_of_length_le (by simp [strsAre_length hus])] at hws
              refine ⟨h5', tk5, (D5, LCg.lst ws) :: nw2, rfl, F5, fun p hp => N5 p ?_, ⟨⟨Ne.symm off5.1, Ne.symm off5.2.1, Ne.symm off5.2.2.1⟩, offc⟩, .inr ⟨_, .tail _ (hsub2 _ (.head _)), rfl, _, rfl⟩, fun p hp => .tail _ (hsub2 p hp), ?_⟩
              · rcases List.mem_cons.mp hp with rfl | hp
                · exact .tail _ (.head _)
                rcases List.mem_cons.mp hp with rfl | hp
                · exact .tail _ (.tail _ (.head _))
                rcases List.mem_cons.mp hp with rfl | hp
                · exact .tail _ (.tail _ (.tail _ (.head _)))
                rcases List.mem_cons.mp hp with rfl | hp
                · exact .head _
                · exact .tail _ (.tail _ (.tail _ (.tail _ (.tail _ hp))))
              · rw [List.getElem?_map, Option.map_eq_some_iff] at hcs
                obtain ⟨xv, hxv, rfl⟩ := hcs
                rw [take_succ_at hxv, List.map_append]
                exact (hls2.mono fun p hp => .tail _ hp).snoc ⟨_, _, _, rfl, .head _, hws⟩
          case fin =>
            rintro zs nw2 ⟨hsub2, hls2⟩ D6 h11 tk11 F11 N11 off11
            have hyl : ys.length = (x0 :: xs1).length := by rw [hls.length, List.length_map]
            rw [show List.take ys.toArray.size (x0 :: xs1) = x0 :: xs1 from List.take_of_length_le (by simpa using Nat.le_of_eq hyl.symm)] at hls2
            (iterate 8 (first | walk1 | (dsimp only; walk1)))
            have hls3 := hls2.mono (nw' := (D6, LCg.lst zs) :: nw2) (fun p hp => .tail _ hp)
            have hzl : zs.length = (x0 :: xs1).length := by rw [hls2.length, List.length_map]
            have hzp : 0 < zs.length := by rw [hzl]; exact Nat.succ_pos _
            refine min_lists F11 N11 (.head _) hls3 hzp rfl (by ktr_units) ?_
            intro v1 h12 tk12 F12 N12 sl1
            obtain ⟨a1, us1, n1, rfl, m1, hus1⟩ := sl1
            (iterate 10 (first | walk1 | (dsimp only; walk1)))
            rename (Fr g' L' _ _) => F13
            rename (News g' L' _ _) => N13
            refine max_lists F13 N13 (.head _) hls3 hzp rfl (by ktr_units) ?_
            intro v2 h14 tk14 F14 N14 sl2
            obtain ⟨a2, us2, n2, rfl, m2, hus2⟩ := sl2
            (iterate 7 (first | walk1 | (dsimp only; walk1)))
            refine wpAny_mono (Q := fun f s₂ => f = .next ∧ ∃ h tk m' Dc n ws, s₂ = { s with heap := h, toks := tk } ∧ Fr g' L' h m' ∧ m' (Str.ofString "common") = some (.ref Dc) ∧ m' (Str.ofString "isabs") = some (.bool ((List.range (x0 :: xs1).length).any fun i => Txt.startswith ((x0 :: xs1).getD i (⟨#[]⟩)) (Str.ofString "/"))) ∧ News g' L' h ((Dc, lobj (List.toArray ws) n) :: (L' + 1, oS) :: news) ∧ StrsAre ws (lcp (minP ((x0 :: xs1).map partsS)) (maxP ((x0 :: xs1).map partsS)))) ?loop ?rest (fun _ _ e => e)
            case rest =>
              rintro f s₂ ⟨rfl, h20, tk20, m20, Dc, nc, ws, rfl, F20, mc, mi, N20, hws⟩
              have e20 : m20 = fun y => if y = Str.ofString "common" then some (.ref Dc) else if y = Str.ofString "isabs" then some (.bool ((List.range (x0 :: xs1).length).any fun i => Txt.startswith ((x0 :: xs1).getD i (⟨#[]⟩)) (Str.ofString "/"))) else m20 y := by
                funext y
                by_cases y1 : y = Str.ofString "common"
                · rw [y1, if_pos rfl, mc]
                · rw [if_neg y1]
                  by_cases y2 : y = Str.ofString "isabs"
                  · rw [y2, if_pos rfl, mi]
                  · rw [if_neg y2]
              rw [e20] at F20
              clear e20
              (iterate 6 (first | walk1 | (dsimp only; walk1)))
              generalize hb : ((List.range (x0 :: xs1).length).any fun i => Txt.startswith ((x0 :: xs1).getD i (⟨#[]⟩)) (Str.ofString "/")) = b at F20 ⊢
              by_cases hbt : b = true
              · rw [if_pos hbt]
                (iterate 13 (first | walk1 | (dsimp only; walk1)))
                rename (News g' L' _ _) => N21
                refine join_listW ⟨_, (N21 (Dc, lobj (List.toArray ws) nc) (by first | exact .head _ | exact .tail _ (.head _))).1, rfl, _, rfl⟩ hws (by decide) (weight_lcp (by simp) hlen) (fun tj kj => ?_)
                refine PyProof.Rows.add_str (fun t' tk => ?_) ?sz
                case sz => exact join_len (weight_lcp (by simp) hlen)
                rename (Fr g' L' _ _) => F22
                refine leaveK_ F22 N21 (fun F23 N23 => ?_)
                have hcp : cpS (x0 :: xs1) = Str.ofString "/" ++ Txt.join (Str.ofString "/") (lcp (minP (List.map partsS (x0 :: xs1))) (maxP (List.map partsS (x0 :: xs1)))) := by
                  unfold cpS
                  rw [show absA (x0 :: xs1) = b from hb]
                  simp only [hbt]; rfl
                rw [← hcp]
                exact hret.2.2 (by simp) hft _ _ _ F23 (cb_drop N23 fun p hp => by first | exact .tail _ (.tail _ hp) | exact .tail _ (.tail _ (.tail _ hp)))
              · rw [if_neg hbt]
                (iterate 21 (first | walk1 | (dsimp only; walk1)))
                rename (News g' L' _ _) => N21
                refine join_listW ⟨_, (N21 (Dc, lobj (List.toArray ws) nc) (by first | exact .head _ | exact .tail _ (.head _))).1, rfl, _, rfl⟩ hws (by decide) (weight_lcp (by simp) hlen) (fun tj kj => ?_)
                refine PyProof.Rows.add_str (fun t' tk => ?_) ?sz
                case sz => exact Nat.le_trans (Nat.add_le_add_right (by decide) _) (join_len (weight_lcp (by simp) hlen))
                rename (Fr g' L' _ _) => F22
                refine leaveK_ F22 N21 (fun F23 N23 => ?_)
                have hcp : cpS (x0 :: xs1) = Str.ofString "" ++ Txt.join (Str.ofString "/") (lcp (minP (List.map partsS (x0 :: xs1))) (maxP (List.map partsS (x0 :: xs1)))) := by
                  unfold cpS
                  rw [show absA (x0 :: xs1) = b from hb]
                  simp only [hbt]; rfl
                rw [← hcp]
                exact hret.2.2 (by simp) hft _ _ _ F23 (cb_drop N23 fun p hp => by first | exact .tail _ (.tail _ hp) | exact .tail _ (.tail _ (.tail _ hp)))
            case loop =>
             have memS : (L' + 1, oS) ∈ nw2 := hsub2 _ (.tail _ (hsub _ (.tail _ (.tail _ (.head _)))))
             have memN : ∀ p ∈ news, p ∈ nw2 := fun p hp => hsub2 _ (.tail _ (hsub _ (.tail _ (.tail _ (.tail _ hp)))))
             k_dflt (refine For_enumL g' (by with_unfolding_all rfl) (by rfl) (by rfl) (by rfl) ?_ ?hs ?hE)
             case hs => intro _; with_unfolding_all rfl
             case hE => passes_own
             (iterate 6 (first | walk1 | (dsimp only; walk1)))
             rename (Fr g' L' _ _) => F15
             rename (News g' L' _ _) => N15
             refine enum_call F15 N15 m1 ?_
             intro h16 e16 it16 F16 N16 he16 hit16 hei heL hiL hn1 hn2 off16
             have hL : ((x0 :: xs1).map partsS).length = zs.length := by rw [List.length_map, hzl]
             rw [← hL] at hus1 hus2
             have hS := max_min (L := (x0 :: xs1).map partsS) (by simp)
             have hus1' : StrsAre us1 (minP ((x0 :: xs1).map partsS)) := hus1
             have hus2' : StrsAre us2 (maxP ((x0 :: xs1).map partsS)) := hus2
             clear hus1 hus2
             generalize hS1 : minP ((x0 :: xs1).map partsS) = S1 at hus1' hS
             have hSl : S1.length ≤ 1001 := by
               rw [← hS1]
               obtain ⟨xa, xm, e⟩ := List.mem_map.mp (minP_mem (L := (x0 :: xs1).map partsS) (by simp))
               rw [← e]
               exact Nat.le_trans (partsS_len xa) (Nat.succ_le_succ (hlen xa xm))
             generalize hS2 : maxP ((x0 :: xs1).map partsS) = S2 at hus2' hS
             refine enumP (fun i => S1.take i = S2.take i) rfl F16 N16 m1 he16 hit16 hei heL hiL hn1 hn2 off16 rfl ?turn ?done
             case turn =>
               intro i v t h17 tk17 nw3 hv hP hsub3 F17 N17
               obtain ⟨cv, tcv, rfl, hcv⟩ := strsAre_at hus1' (by simpa using hv)
               have hi1 : i < S1.length := (List.getElem?_eq_some_iff.mp hcv).1
               have hi2 := idx_in S1 S2 i hS hP hi1
               obtain ⟨dv, tdv, q1, q2, _⟩ := strsAre_get hus2' i (by rw [strsAre_length hus2']; exact hi2)
               have N17' : News g' L' h17 ((a1, lobj us1.toArray n1) :: (a2, lobj us2.toArray n2) :: nw3) := fun p hp => by
                 rcases List.mem_cons.mp hp with rfl | hp
                 · exact N17 _ (hsub3 _ m1)
                 rcases List.mem_cons.mp hp with rfl | hp
                 · exact N17 _ (hsub3 _ m2)
                 · exact N17 _ hp
               (iterate 7 (first | walk1 | (dsimp only; walk1)))
               have hi63 : (i : Int) < 2 ^ 63 := by omega
               refine item_listL ⟨_, (N17' _ (.tail _ (.head _))).1, rfl, _, rfl⟩ (Int.natCast_nonneg i) hi63 (by simpa using q1) ?_
               (iterate 1 (first | walk1 | (dsimp only; walk1)))
               refine wpAny_truthy_bool ?_
               by_cases hne : (cv != dv) = true
               · rw [hne]
                 (iterate 10 (first | walk1 | (dsimp only; walk1)))
                 k_dflt (refine kmk_slice F17 N17' ⟨_, (N17' _ (.head _)).1, rfl, _, rfl⟩ .none (.int _ _) (fun D18 h18 F18 N18 l18 => ?_) (by with_unfolding_all rfl) (by intro _; with_unfolding_all rfl) ?sz)
                 case sz => exact Nat.le_trans (by rw [List.size_toArray, strsAre_length hus1']; exact hSl : us1.toArray.size ≤ 1001) (by decide)
                 rw [slicePick_upto'] at N18
                 simp only [List.toList_toArray] at N18
                 (iterate 3 (first | walk1 | (dsimp only; walk1)))
                 rename (Fr g' L' _ _) => F19
                 rename (News g' L' _ _) => N19
                 refine ⟨rfl, _, _, _, D18, 0, us1.take i, rfl, F19, by with_unfolding_all rfl, by with_unfolding_all rfl, fun p hp => ?_, ?_⟩
                 · rcases List.mem_cons.mp hp with rfl | hp
                   · exact N19 _ (.head _)
                   rcases List.mem_cons.mp hp with rfl | hp
                   · exact N19 _ (.tail _ (.tail _ (.tail _ (hsub3 _ (.tail _ memS)))))
                   · exact N19 _ (.tail _ (.tail _ (.tail _ (hsub3 _ (.tail _ (memN p hp))))))
                 · rw [← lcp_stop S1 S2 i hP (by rw [hcv, q2]; intro q; have := Option.some.inj q; rw [this] at hne; simp at hne)]
                   exact strsAre_take hus1' i
               · rw [Bool.not_eq_true] at hne
                 rw [hne]
                 (iterate 2 (first | walk1 | (dsimp only; walk1)))
                 show wpAny _ _ (execs [] _) _ _ _
                 refine wpAny_execs_nil ?_
                 have he' : cv = dv := by simpa using hne
                 subst he'
                 refine ⟨_, _, _, rfl, F17, N17, fun z z1 z2 => by simp only [if_neg z1, if_neg z2], ?_⟩
                 rw [take_succ_at hcv, take_succ_at q2, hP]
             case done =>
               intro h17 tk17 u1 u2 hP F17 N17
               refine ⟨rfl, _, _, _, a1, n1, us1, rfl, F17, by with_unfolding_all rfl, by with_unfolding_all rfl, fun p hp => ?_, ?_⟩
               · rcases List.mem_cons.mp hp with rfl | hp
                 · exact N17 _ m1
                 rcases List.mem_cons.mp hp with rfl | hp
                 · exact N17 _ (.tail _ memS)
                 · exact N17 _ (.tail _ (memN p hp))
               · have hl : us1.toArray.size = S1.length := by rw [List.size_toArray, strsAre_length hus1']
                 rw [hl, List.take_length] at hP
                 rw [← lcp_end S1 S2 hP]
                 exact hus1'
        · intro hft h9 tk9 e9 h10 e10 hx9
          have F10 := F8.extBut e10 (Nat.le_refl _)
          have N10 : News g' L' h10 news := fun p hp => ⟨e10 _ _ (Nat.ne_of_lt (Heap.lt_size (N8 p (.tail _ (.tail _ (hsub _ (.tail _ (.tail _ (.tail _ hp))))))).1)) (N8 p (.tail _ (.tail _ (hsub _ (.tail _ (.tail _ (.tail _ hp))))))).1, (N8 p (.tail _ (.tail _ (hsub _ (.tail _ (.tail _ (.tail _ hp))))))).2⟩
          clear N8 F8
          k_dflt (refine own_caught B' F10 (by rfl) (by rfl) hx9 ?_)
          intro Bx h11 a11 hid hen11 st11 ff11 x11 u11
          obtain ⟨g5, T5, F5, K5⟩ := groundX B' F10 (by rfl) hid.from_ st11 u11
          have X5 : (Mine.hd.heap_39 w.params).In g5 := XB.keeps K5.stays
          have P5 : Top Mine.hd.view_39 (looseW Mine.hd.view_39 [Str.ofString "_twin_re_1", Str.ofString "_twin_re_2"]) mean mg mb g5 := TB.keeps K5.stays
          have N5 : News g5 L' h11 [] := fun p hp => nomatch hp
          k_dflt (refine wpAny_handleBy_builtin (X := "ValueError") (T := "ValueError") (b := true) PySem.F.isExc_ValueError PySem.F.notTuple_ValueError (by rw [isSubtype_type]; kernel_rfl) ?_)
          (iterate 1 (first | walk1 | (dsimp only; walk1)))
          obtain ⟨o11, w11, ho11, hc11, hd11, h211⟩ := x11.there
          refine ⟨rfl, ⟨o11, ho11, hc11⟩, ?_⟩
          rw [if_pos rfl]
          refine flightX st11 ff11 x11 fun h12 st12 ff12 x12 u12 => ?_
          clear F5 K5 X5 P5 N5 T5
          obtain ⟨g6, T6, F6, K6⟩ := groundX B' F10 (by rfl) hid.from_ st12 (u11.trans u12)
          have X6 : (Mine.hd.heap_39 w.params).In g6 := XB.keeps K6.stays
          have P6 : Top Mine.hd.view_39 (looseW Mine.hd.view_39 [Str.ofString "_twin_re_1", Str.ofString "_twin_re_2"]) mean mg mb g6 := TB.keeps K6.stays
          have N6 : News g6 L' h12 [] := fun p hp => nomatch hp
          (iterate 1 (first | walk1 | (dsimp only; walk1)))
          k_dflt (refine Raise_fromNone PySem.F.excCall_ValueError PySem.F.excRaise_ValueError (h := e9) rfl ?_)
          (iterate 1 (first | walk1 | (dsimp only; walk1)))
          refine ⟨rfl, ?_⟩
          (iterate 3 (first | walk1 | (dsimp only; walk1)))
          obtain ⟨o12, w12, ho12, hc12, hd12, h212⟩ := x12.there
          refine ⟨(by show 1 ≤ sizeLine; decide), ⟨o12, w12, ho12, hd12, h212⟩, ?_⟩
          intro h13 e13 t13 h14 k13 n13e n13t ht13 hne13 sb14 g14
          have k14 : ∀ b o, h12.get? b = some o → h14.get? b = some o := fun b o hb => sb14.extBut _ _ (fun q => by rw [q, n13e] at hb; cases hb) (k13 _ _ hb)
          have hen13 : Bx.get? e13 = none := by
            cases q : Bx.get? e13 with
            | none => rfl
            | some o => have := st12 _ _ q; rw [n13e] at this; cases this
          have hen13t : Bx.get? t13 = none := by
            cases q : Bx.get? t13 with
            | none => rfl
            | some o => have := st12 _ _ q; rw [n13t] at this; cases this
          have st14 : Bx.StaysIn h14 := fun b o hb => k14 _ _ (st12 _ _ hb)
          have ff14 := ff12.of_keeps (h' := h14) (fun b o hb _ => ⟨o, k14 _ _ hb, rfl⟩)
          have u14 : h10.UpToSlots h14 := (u11.trans u12).trans (Heap.UpToSlots.of_keeps k14)
          have tup14 : h14.TupAt t13 [Value.str (Str.ofString "Can't mix absolute and relative paths") tk9] := ⟨_, _, (sb14.2 t13 (Ne.symm hne13)).trans ht13, rfl, rfl⟩
          clear F6 K6 X6 P6 N6 T6
          k_dflt (refine own_back (B := Bx) (L := L') B'.stack (by rfl) ff14 st14 hen13 g14 rfl rfl rfl rfl rfl ?_)
          intro h15 st15 ff15 x15 u15
          obtain ⟨g7, T7, F7', K7⟩ := groundX B' F10 (by rfl) hid.from_ st15 (u14.trans u15)
          have X7 : (Mine.hd.heap_39 w.params).In g7 := XB.keeps K7.stays
          have P7 : Top Mine.hd.view_39 (looseW Mine.hd.view_39 [Str.ofString "_twin_re_1", Str.ofString "_twin_re_2"]) mean mg mb g7 := TB.keeps K7.stays
          have N7' : News g7 L' h15 [] := fun p hp => nomatch hp
          k_dflt (refine wpAny_handleBy_tup2 (X := "ValueError") (T1 := "TypeError") (T2 := "AttributeError") (b1 := false) (b2 := false) (isSubtype_of_subB (by decide +kernel)) (isSubtype_of_subB (by decide +kernel)) (isSubtype_of_subB (by decide +kernel)) (isSubtype_of_subB (by decide +kernel)) (isSubtype_of_subB (by decide +kernel)) (isSubtype_of_subB (by decide +kernel)) ?_)
          (iterate 4 (first | walk1 | (dsimp only; walk1)))
          k_dflt (refine' nameX_B ?qF ?qX ?qT ?qe ?qv ?qn ?_ ?qa ?qb; (case qF => k_asm); (case qX => k_asm); (case qT => k_asm); (case qa => rfl); (case qb => rfl); (case qe => k_is); (case qv => boot_by_name); (case qn => decide); k_whole)
          (iterate 1 (first | walk1 | (dsimp only; walk1)))
          obtain ⟨o15, w15, ho15, hc15, hd15, h215⟩ := x15.there
          refine wpAny_newObj_type ⟨_, rfl, IsTup.new _ _, ⟨o15, Heap.get?_push_of_some _ ho15, hc15⟩, ?_⟩
          rw [if_neg (by decide)]
          have kp : ∀ (oN : Obj) b o, h15.get? b = some o → (h15.push oN).get? b = some o := fun oN b o hb => Heap.get?_push_of_some _ hb
          k_dflt (refine own_gone (B := Bx) (L := L') (by rfl) (ff15.of_keeps fun b o hb _ => ⟨o, kp _ _ _ hb, rfl⟩) (fun b o hb => kp _ _ _ (st15 b o hb)) (x15.keeps (kp _)) ?_)
          intro h16 st16 ff16 x16 u16
          have u16' := (u15.trans (Heap.UpToSlots.of_keeps (kp _))).trans u16
          show wpAny _ _ (leaving _ _) _ _ _
          k_dflt (refine own_leave (B := Bx) (L := L') (by rfl) ff16 st16 x16 ?_)
          intro h17 st17 ff17 tr17 u17
          exact hret.2.1 (by simp) hft g' h17 _ e13 t13 _ FG' (own_raised B' F10 N10 (by rfl) hid hen13 hen13t st17 ff17 tr17 (tup14.of_slots (u16'.trans u17))) ((Heap.UpToSlots.of_keeps F10.keep).trans ((u14.trans u16').trans u17))
end Mine
end

noncomputable section
open PySem PySem.W PyProof.Rows
set_option maxRecDepth 100000
set_option maxHeartbeats 8000000
namespace Mine
/-- a contract for calls from the outermost frame -/
def Co (w : World) (mean : ExcName → Option Value) (mg mb : Str → Option Value) (f : Addr) (news : List (Addr × Obj)) (vs : List Value) (Post : Heap → Addr → (Str → Option Value) → Shared → (Value → Shared → Prop) → Prop) : Prop :=
  ∀ (dp un : Nat) (gd : Option (List Code)) (cn : Str) (cs : Scope) (a : Addr) (ccd : Value) (cl : List (Str × Addr)) (A₀ : Around) (base h₀ : Heap) (L : Addr) (m : Str → Option Value) (s : Shared) (Q E : Value → Shared → Prop),
    Below A₀ base [] h₀ → Fr h₀ L s.heap m → (Mine.hd.heap_39 w.params).In h₀ → News h₀ L s.heap news → Top Mine.hd.view_39 (looseW Mine.hd.view_39 [Str.ofString "_twin_re_1", Str.ofString "_twin_re_2"]) mean mg mb h₀ → (Mine.hd.heap_39 w.params).In base → Top Mine.hd.view_39 (looseW Mine.hd.view_39 [Str.ofString "_twin_re_1", Str.ofString "_twin_re_2"]) mean mg mb base → cs.kind = .function →
    dp + 20 < recursionLimit → un + 200 < cLine → Post h₀ L m s Q →
      wpAny (model Challenge.rw_pd0126_01.row.prog w) (ktrTop dp un gd cn cs L a ccd cl []) (call (.ref f) vs) Q E s
def askedS (xs : List Str) : Str × Str :=
  match xs with
  | [] => (Str.ofString "refused", Str.ofString "commonpath() arg is an empty sequence")
  | x :: r => if (relA (x :: r) && absA (x :: r)) = true then (Str.ofString "refused", Str.ofString "Can't mix absolute and relative paths") else (Str.ofString "told", cpS (x :: r))
/-- a tuple of two texts -/
def TwoObj (o : Obj) (p : Str × Str) : Prop := ∃ t1 t2, o = tobj #[.str p.1 t1, .str p.2 t2]
theorem asked (w : World) (mean : ExcName → Option Value) (mg mb : Str → Option Value) (news : List (Addr × Obj)) (D : Addr) (vs : List Value) (xs : List Str) (nD : Nat) (hv : StrsAre vs xs) (hD : (D, lobj vs.toArray nD) ∈ news) (hn : xs.length ≤ 100) (hlen : ∀ x ∈ xs, x.length ≤ 1000) :
   Co w mean mg mb 154 news [Value.ref D] (fun h₀ L m s Q => ∀ T o h' tk', Fr h₀ L h' m → News h₀ L h' ((T, o) :: news) → TwoObj o (askedS xs) → Q (.ref T) { s with heap := h', toks := tk' }) := by
  unfold Co
  w_top off
  k_fill
  intro dp un gd cn cs a ccd cl A₀ base h₀ L m s Q E hB hF hX hN hT XB TB hk hdp hun hret
  refine wpAny_call ?_
  k_dflt (refine' code_defSX ?k1 ?k2 ?k3 ?k4 ?k5 ?kA ?kF ?kK ?k6 ?k7 ?k8 ?k9 ?kB ?_ ?c2 ?c3 ?c4 ?c5; (case kA => exact rfl); (case kF => exact rfl); (case kK => assumption); (case k1 => k_asm); (case k2 => k_asm); (case k3 => k_asm); (case k4 => k_asm); (case k5 => k_asm); (case k6 => k_is); (case k7 => k_is); (case k8 => ktr_room); (case k9 => exact BindsTo.of_eq rfl); (case kB => exact locs rfl); (case c2 => exact rfl); (case c3 => exact rfl); (case c4 => exact rfl); (case c5 => decide))
  k_whole
  intro g' L' h' FG' F' N' B' X' T' D'
  (try dsimp only)
  (try k_fold)
  (iterate 2 (first | walk1 | (dsimp only; walk1)))
  refine wpAny_Try_except ?_
  (iterate 12 (first | walk1 | (dsimp only; walk1)))
  refine ⟨X'.keeps F'.keep, ?_⟩
  refine' commonpath w mean mg mb news D vs xs nD hv hD hn hlen _ _ _ _ _ _ _ _ _ _ _ _ _ _ _ _ _ B' ?kF X' ?kN T' XB TB ?hk ?hroom ?hunits ?post
  case hk => exact rfl
  case kF => exact F'
  case kN => exact N'
  case hroom => ktr_room
  case hunits => ktr_units
  refine ⟨fun hx => ?_, fun hx hm => ?_, fun hx hm => ?_⟩
  · unfold Raises
    intro G h2 tk2 e t u FG R U
    have hask : askedS xs = (Str.ofString "refused", Str.ofString "commonpath() arg is an empty sequence") := by
      subst hx; rfl
    k_dflt (refine caught_SB (n := Str.ofString "fault") (x := Str.ofString "ValueError") (T' := "ValueError") R FG B' U XB TB D' (KtsTurn.refl) (by k_is) PyProof.Rows.Boot.«ValueError» (by decide) PySem.F.isExc_ValueError PySem.F.notTuple_ValueError (by rw [isSubtype_type]; kernel_rfl) ?_)
    intro h3 g3 news3 tk3 T3 F3 N3 G3 N3' B3 X3 P3 D3
    (iterate 12 (first | walk1 | (dsimp only; walk1)))
    refine str_got_one PySem.F.excStr_ValueError N3 G3 (by ktr_units) ?_
    clear N3 G3
    (iterate 4 (first | walk1 | (dsimp only; walk1)))
    refine hret _ _ _ _ (by assumption) (by assumption) ?_
    rw [hask]
    exact ⟨_, _, rfl⟩
  · unfold Raises
    intro G h2 tk2 e t u FG R U
    have hask : askedS xs = (Str.ofString "refused", Str.ofString "Can't mix absolute and relative paths") := by
      obtain ⟨x, r, rfl⟩ := List.exists_cons_of_ne_nil hx
      rw [askedS, if_pos hm]
    k_dflt (refine caught_SB (n := Str.ofString "fault") (x := Str.ofString "ValueError") (T' := "ValueError") R FG B' U XB TB D' (KtsTurn.refl) (by k_is) PyProof.Rows.Boot.«ValueError» (by decide) PySem.F.isExc_ValueError PySem.F.notTuple_ValueError (by rw [isSubtype_type]; kernel_rfl) ?_)
    intro h3 g3 news3 tk3 T3 F3 N3 G3 N3' B3 X3 P3 D3
    (iterate 12 (first | walk1 | (dsimp only; walk1)))
    refine str_got_one PySem.F.excStr_ValueError N3 G3 (by ktr_units) ?_
    clear N3 G3
    (iterate 4 (first | walk1 | (dsimp only; walk1)))
    refine hret _ _ _ _ (by assumption) (by assumption) ?_
    rw [hask]
    exact ⟨_, _, rfl⟩
  · intro t h2 tk2 F2 N2
    have hask : askedS xs = (Str.ofString "told", cpS xs) := by
      obtain ⟨x, r, rfl⟩ := List.exists_cons_of_ne_nil hx
      rw [askedS, if_neg (by rw [hm]; decide)]
    (iterate 3 (first | walk1 | (dsimp only; walk1)))
    refine hret _ _ _ _ (by assumption) (by assumption) ?_
    rw [hask]
    exact ⟨_, _, rfl⟩
end Mine
end

noncomputable section
set_option maxRecDepth 100000
namespace Mine
open PySem PySem.W PyProof.Rows PySem.Calls
theorem fr_known {h₀ h : Heap} {L : Addr} {m : Str → Option Value} (F : Fr h₀ L h m) {a : Str} {u : Value} (e : m a = some u) : Fr h₀ L h (fun y => if y = a then some u else m y) := by
  have : (fun y => if y = a then some u else m y) = m := by
    funext y
    by_cases h : y = a
    · rw [if_pos h, h, e]
    · rw [if_neg h]
  rw [this]; exact F
section
variable {prog : Program} {w : World} {A : Around} {E : Value → Shared → Prop} {s : Shared} {h₀ : Heap} {env : Env}
def TurnG (h₀ : Heap) (L I : Addr) (oI : Obj) (J : (Str → Option Value) → List (Addr × Obj) → Prop) (Q : Flow → Shared → Prop) (s₁ : Shared) (f : Flow) (s₂ : Shared) : Prop :=
  match f with
  | .ret v => Q (.ret v) s₂
  | .brk => Q .next s₂
  | _ => ∃ h' tk' m₂ nw₂, s₂ = { s₁ with heap := h', toks := tk' } ∧ Fr h₀ L h' m₂ ∧ News h₀ L h' ((I, oI) :: nw₂) ∧ (∀ p ∈ nw₂, p.1 ≠ I) ∧ J m₂ nw₂
theorem TurnG.end_ {L I : Addr} {oI : Obj} {J : (Str → Option Value) → List (Addr × Obj) → Prop} {Q : Flow → Shared → Prop} {s₁ : Shared} {h' : Heap} {tk' : Nat} {m₂ : Str → Option Value} (nw₂ : List (Addr × Obj)) (F : Fr h₀ L h' m₂) (N : News h₀ L h' ((I, oI) :: nw₂)) (o : ∀ p ∈ nw₂, p.1 ≠ I) (j : J m₂ nw₂) :
    TurnG h₀ L I oI J Q s₁ .next { s₁ with heap := h', toks := tk' } := ⟨h', tk', m₂, nw₂, rfl, F, N, o, j⟩
def ListSrc (prog : Program) (w : World) (A : Around) (h₀ : Heap) (env : Env) (x : Str) (body : List Stmt) (Q : Flow → Shared → Prop) (E : Value → Shared → Prop) (xv : Value) (s₁ : Shared) : Prop :=
  ∃ (l : Addr) (vs : Array Value) (n : Nat) (news : List (Addr × Obj)) (m : Str → Option Value) (J : Nat → (Str → Option Value) → List (Addr × Obj) → Prop), xv = .ref l ∧ A.handled = none ∧ (∀ i m₁ nw, J i m₁ nw → (l, lobj vs n) ∈ nw) ∧
    Fr h₀ env.locals s₁.heap m ∧ News h₀ env.locals s₁.heap news ∧ J 0 m news ∧
    (∀ (i : Nat) v m₁ nw I oI h tk, s₁.toks ≤ tk → vs[i]? = some v → J i m₁ nw → Fr h₀ env.locals h (fun y => if y = x then some v else m₁ y) → News h₀ env.locals h ((I, oI) :: nw) → (∀ p ∈ nw, p.1 ≠ I) →
      wpAny (model prog w) A (execs body env) (TurnG h₀ env.locals I oI (J (i + 1)) Q { s₁ with heap := h, toks := tk }) E { s₁ with heap := h, toks := tk }) ∧
    (∀ h tk m₁ nw, s₁.toks ≤ tk → J vs.size m₁ nw → Fr h₀ env.locals h m₁ → News h₀ env.locals h nw → Q .next { s₁ with heap := h, toks := tk })
theorem For_listG {Q : Flow → Shared → Prop} {x : Str} {px pos : Pos} {iter : Expr} {body : List Stmt} (h₀ : Heap) (hx : env.kindOf x = some .local)
    (hp : (env.scope.kind == .class || (env.scope.kind == .module && env.locals != env.globals)) = false)
    (h : wpAny (model prog w) A (eval iter env) (ListSrc prog w A h₀ env x body Q E) E s)
    (hs : ∀ x, foldedSetIterable iter env x = pure x)
    (hE : PassesOwn (model prog w) A env E := by passes_own) :
    wpAny (model prog w) A (exec (.For (.Name x px) iter body [] pos) env) Q E s := by
  refine wpAny_For (wpAny_mono h (fun xv s₁ h₁ => ?_) fun _ _ e => e) hs
  obtain ⟨l, vs, n, news, m, J, rfl, hA, hJl, F, N, h0, turn, done⟩ := h₁
  have hm0 := hJl 0 m news h0
  have isl : s₁.heap.IsList l vs := ⟨_, (N _ hm0).1, rfl, _, rfl⟩
  have hlt : l < s₁.heap.objs.size := Heap.lt_size (N _ hm0).1
  have hlL : l ≠ env.locals := (N _ hm0).2.1
  refine wpAny_pyIter_list isl ?_
  have up : ∀ b o, s₁.heap.get? b = some o → (s₁.heap.push { cls := .type "list_iterator", data := .fields #[.ref l, .int 0 0] }).get? b = some o := fun b o e => Heap.get?_push_of_some _ e
  have hLlt : LT.lt (α := Nat) env.locals s₁.heap.objs.size := F.ns.lt
  have hI₀ : h₀.get? s₁.heap.objs.size = none := next_is_new F
  have hit0 : (s₁.heap.push { cls := .type "list_iterator", data := .fields #[.ref l, .int 0 0] }).IsListIter s₁.heap.objs.size l 0 := ⟨_, Heap.get?_push_size _ rfl, rfl, rfl⟩
  have offI : ∀ p ∈ news, p.1 ≠ s₁.heap.objs.size := fun p hp => Nat.ne_of_lt (Heap.lt_size (N p hp).1)
  have F0 := F.push { cls := .type "list_iterator", data := .fields #[.ref l, .int 0 0] }
  have N0 : News h₀ env.locals (s₁.heap.push { cls := .type "list_iterator", data := .fields #[.ref l, .int 0 0] }) news := N.grown up
  generalize s₁.heap.push { cls := .type "list_iterator", data := .fields #[.ref l, .int 0 0] } = hp1 at *
  generalize s₁.heap.objs.size = I at *
  have hIL : I ≠ env.locals := fun q => by subst q; exact Nat.lt_irrefl _ hLlt
  have hlI : l ≠ I := offI _ hm0
  have W := Walks.list (prog := prog) (w := w) hA I l hlI vs
  refine codeAny_forLoop
    (fun k s' => ∃ h' tk m' news' i, s' = { s₁ with heap := h', toks := tk } ∧ s₁.toks ≤ tk ∧ h'.IsListIter I l i ∧ Fr h₀ env.locals h' m' ∧ News h₀ env.locals h' news' ∧ (∀ p ∈ news', p.1 ≠ I) ∧ J i m' news' ∧ i ≤ vs.size ∧ k = vs.size + 1 - i) ?_ (vs.size + 1)
    ⟨hp1, s₁.toks, m, news, 0, rfl, Nat.le_refl _, hit0, F0, N0, offI, h0, Nat.zero_le _, rfl⟩
  rintro k s' ⟨h', tk, m', news', i, rfl, htk, hit', F', N', off', hJ, hi, rfl⟩
  have hlm := hJl i m' news' hJ
  have isl' : h'.IsList l vs := ⟨_, (N' _ hlm).1, rfl, _, rfl⟩
  by_cases hlt : i < vs.size
  · refine wpAny_with_toks (n := s₁.toks) htk (W.item i _ _ _ hlt ⟨hit', isl'⟩ fun v h₁ tk₁ hv hst₁ hk₁ htk₁ => ?_)
    have hk₁' : ∀ b o, b ≠ I → h'.get? b = some o → h₁.get? b = some o := fun b o hb e => hk₁ b o (by simpa using hb) e
    have F₁ := LCg.fr_but F' hk₁ (Ne.symm hIL) hI₀
    refine wpAny_with_toks (n := s₁.toks) htk₁ (wpAny_assign_Name (wpAny_storeName_local hx F₁.ns (fun h₂ hn₂ hs₂ htk₂ => ?_) hp))
    have F₂ := F₁.set hn₂ hs₂
    obtain ⟨oI, hoI, hIr⟩ := hst₁.1
    have hoI₂ : h₂.get? I = some oI := hs₂.extBut _ _ hIL hoI
    have N₂ : News h₀ env.locals h₂ ((I, oI) :: news') := fun p hp => by
      rcases List.mem_cons.mp hp with rfl | hp
      · exact ⟨hoI₂, hIL, hI₀⟩
      · exact ⟨hs₂.extBut _ _ (N' p hp).2.1 (hk₁' _ _ (off' p hp) (N' p hp).1), (N' p hp).2⟩
    have body := wpAny_toks_of (n := s₁.toks) htk₂ (wpAny_passesOwn hE (turn i v m' news' I oI h₂ _ htk₂ hv hJ F₂ N₂ off'))
    refine wpAny_mono body (fun f s₃ h₃ => ?_) fun _ _ e => e.2
    obtain ⟨htk₃, h₃⟩ := h₃
    have fin : (∃ h'' tk' m₂ nw₂, s₃ = { { s₁ with heap := h₂, toks := tk₁ } with heap := h'', toks := tk' } ∧ Fr h₀ env.locals h'' m₂ ∧ News h₀ env.locals h'' ((I, oI) :: nw₂) ∧ (∀ p ∈ nw₂, p.1 ≠ I) ∧ J (i + 1) m₂ nw₂) →
        ∃ m, m < vs.size + 1 - i ∧ ∃ h' tk m' news' i, s₃ = { s₁ with heap := h', toks := tk } ∧ s₁.toks ≤ tk ∧ h'.IsListIter I l i ∧ Fr h₀ env.locals h' m' ∧ News h₀ env.locals h' news' ∧ (∀ p ∈ news', p.1 ≠ I) ∧ J i m' news' ∧ i ≤ vs.size ∧ m = vs.size + 1 - i := by
      rintro ⟨h'', tk', m₂, nw₂, rfl, F₃, N₃, off₃, hJ₃⟩
      exact ⟨vs.size + 1 - (i + 1), by omega, h'', tk', m₂, nw₂, i + 1, rfl, htk₃, ⟨oI, (N₃ _ (.head _)).1, hIr⟩, F₃, fun p hp => N₃ p (.tail _ hp), off₃, hJ₃, hlt, rfl⟩
    cases f with
    | ret v => exact h₃
    | brk => exact h₃
    | next => exact fin h₃
    | cont => exact fin h₃
  · have hin : i = vs.size := by omega
    subst hin
    refine wpAny_with_toks (n := s₁.toks) htk (W.done _ _ _ ⟨hit', isl'⟩ fun h₁ tk₁ hk₁ htk₁ => wpAny_execs_nil ?_)
    exact done h₁ tk₁ m' news' htk₁ hJ (LCg.fr_but F' hk₁ (Ne.symm hIL) hI₀) (LCg.news_but N' hk₁ off')
end
end Mine
end

noncomputable section
set_option maxRecDepth 100000
namespace Mine
open PySem PySem.W PyProof.Rows PySem.Calls PySem.SeqAt
def sd : Str := ⟨#[]⟩
theorem all_eq {xs ys : List Str} (h : xs.length = ys.length) : ((List.range xs.length).all fun j => decide (xs.getD j sd = ys.getD j sd)) = decide (xs = ys) := by
  rw [Bool.eq_iff_iff, List.all_eq_true, decide_eq_true_eq]
  constructor
  · intro q
    refine List.ext_getElem h fun i h1 h2 => ?_
    have := q i (List.mem_range.mpr h1)
    simpa [List.getD_eq_getElem?_getD, List.getElem?_eq_getElem h1, List.getElem?_eq_getElem h2] using this
  · rintro rfl i _
    simp
section
variable {prog : Program} {w : World} {A : Around} {E : Value → Shared → Prop} {s : Shared} {a b : Addr} {vs us : List Value} {xs ys : List Str} {n k : Nat} {Q : Value → Shared → Prop}
theorem eqAt_strs {A : Around} {s : Shared} (hx : StrsAre vs xs) (hy : StrsAre us ys) (j : Nat) (h1 : j < vs.toArray.size) (h2 : j < us.toArray.size) : EqAt A s vs.toArray[j] us.toArray[j] (decide (xs.getD j sd = ys.getD j sd)) := by
  intro prog w E Q hq
  obtain ⟨x, t, p1, p2, _⟩ := strsAre_get hx j (by simpa using h1)
  obtain ⟨y, u, q1, q2, _⟩ := strsAre_get hy j (by simpa using h2)
  have e1 : vs.toArray[j] = .str x t := by
    have := List.getElem?_eq_some_iff.mp p1
    obtain ⟨_, e⟩ := this; simpa using e
  have e2 : us.toArray[j] = .str y u := by
    have := List.getElem?_eq_some_iff.mp q1
    obtain ⟨_, e⟩ := this; simpa using e
  rw [e1, e2]
  rw [List.getD_eq_getElem?_getD, List.getD_eq_getElem?_getD, p2, q2] at hq
  exact wpAny_eqBool_str hq
theorem eq_listsT (ha : s.heap.get? a = some (lobj vs.toArray n)) (hb : s.heap.get? b = some (lobj us.toArray k)) (hx : StrsAre vs xs) (hy : StrsAre us ys) (hu : A.units < cLine) (h : Q (.bool (decide (xs = ys))) s) :
    wpAny (model prog w) A (compareOp .Eq (.ref a) (.ref b)) Q E s := by
  have l1 := strsAre_length hx
  have l2 := strsAre_length hy
  by_cases e : vs.length = us.length
  · refine RcAt.lists (e := fun j => decide (xs.getD j sd = ys.getD j sd)) ⟨_, ha, rfl, _, rfl⟩ ⟨_, hb, rfl, _, rfl⟩ (by simpa using e) hu (eqAt_strs hx hy) prog w E Q ?_
    rw [List.size_toArray, l1, all_eq (by omega)]; exact h
  · refine RcAt.lists_lengths ⟨_, ha, rfl, _, rfl⟩ ⟨_, hb, rfl, _, rfl⟩ (by simpa using e) hu prog w E Q ?_
    rw [decide_eq_false (fun q => e (by rw [l1, l2, q]))] at h; exact h
theorem ne_listsT (ha : s.heap.get? a = some (lobj vs.toArray n)) (hb : s.heap.get? b = some (lobj us.toArray k)) (hx : StrsAre vs xs) (hy : StrsAre us ys) (hu : A.units < cLine) (h : Q (.bool (!decide (xs = ys))) s) :
    wpAny (model prog w) A (compareOp .NotEq (.ref a) (.ref b)) Q E s := by
  have l1 := strsAre_length hx
  have l2 := strsAre_length hy
  by_cases e : vs.length = us.length
  · refine RcNeAt.lists (e := fun j => decide (xs.getD j sd = ys.getD j sd)) ⟨_, ha, rfl, _, rfl⟩ ⟨_, hb, rfl, _, rfl⟩ (by simpa using e) hu (eqAt_strs hx hy) prog w E Q ?_
    rw [List.size_toArray, l1, all_eq (by omega)]; exact h
  · refine RcNeAt.lists_lengths ⟨_, ha, rfl, _, rfl⟩ ⟨_, hb, rfl, _, rfl⟩ (by simpa using e) hu prog w E Q ?_
    rw [decide_eq_false (fun q => e (by rw [l1, l2, q]))] at h; exact h
theorem ne_tupsT (ha : s.heap.get? a = some (tobj vs.toArray)) (hb : s.heap.get? b = some (tobj us.toArray)) (hx : StrsAre vs xs) (hy : StrsAre us ys) (e : vs.length = us.length) (hu : A.units < cLine) (h : Q (.bool (!decide (xs = ys))) s) :
    wpAny (model prog w) A (compareOp .NotEq (.ref a) (.ref b)) Q E s := by
  have l1 := strsAre_length hx
  have l2 := strsAre_length hy
  refine RcNeAt.tuples (e := fun j => decide (xs.getD j sd = ys.getD j sd)) ⟨_, ha, rfl, _, rfl⟩ ⟨_, hb, rfl, _, rfl⟩ hu (eqAt_strs hx hy) prog w E Q ?_
  rw [List.size_toArray, List.size_toArray, ← e, Nat.min_self, l1, all_eq (by omega)]
  simpa using h
end
end Mine
end

noncomputable section
open PySem PySem.W PyProof.Rows
set_option maxRecDepth 100000
set_option maxHeartbeats 2000000
namespace Mine
theorem beq_sym (a b : Str) : (a == b) = (b == a) := by rw [Bool.eq_iff_iff, beq_iff_eq, beq_iff_eq]; exact eq_comm
theorem allLt_ne {d : Addr} : ∀ (l : List (Addr × Obj)), AllLt d l → ∀ p ∈ l, p.1 ≠ d := by
  intro l
  induction l with
  | nil => intro _ p hp; cases hp
  | cons a l ih =>
    intro h p hp
    rcases List.mem_cons.mp hp with e | hp
    · rw [e]; exact Nat.ne_of_lt h.1
    · exact ih h.2 p hp
theorem off1_ne {d : Addr} : ∀ (l : List (Addr × Obj)), LCg.Off1 d l → ∀ p ∈ l, p.1 ≠ d := by
  intro l
  induction l with
  | nil => intro _ p hp; cases hp
  | cons a l ih =>
    intro h p hp
    rcases List.mem_cons.mp hp with e | hp
    · rw [e]; exact h.1
    · exact ih h.2 p hp
theorem cut_val {prog : Program} {w : World} {A : Around} {Q E : Value → Shared → Prop} {s : Shared} {h₀ : Heap} {L : Addr} {m : Str → Option Value} {news : List (Addr × Obj)} {c : Sem Value} (F : Fr h₀ L s.heap m) (N : News h₀ L s.heap news) (V : Value → Prop)
    (h1 : wpAny (model prog w) A c (fun v s' => ∃ h' tk', V v ∧ s' = { s with heap := h', toks := tk' } ∧ Fr h₀ L h' m ∧ News h₀ L h' news) E s)
    (h2 : ∀ v h' tk', V v → Fr h₀ L h' m → News h₀ L h' news → Q v { s with heap := h', toks := tk' }) : wpAny (model prog w) A c Q E s :=
  wpAny_mono h1 (fun v s' ⟨h', tk', hv, e, F', N'⟩ => by subst e; exact h2 v h' tk' hv F' N') fun _ _ e => e
/-- a contract for calls from any frame; the answer may be new -/
def Cr (w : World) (mean : ExcName → Option Value) (mg mb : Str → Option Value) (f : Addr) (news : List (Addr × Obj)) (vs : List Value) (Post : Heap → Addr → (Str → Option Value) → Shared → (Value → Shared → Prop) → Prop) : Prop :=
  ∀ (dp un : Nat) (gd : Option (List Code)) (cn : Str) (cs : Scope) (a : Addr) (ccd : Value) (cl : List (Str × Addr)) (outer : List Env) (A₀ : Around) (base h₀ : Heap) (L : Addr) (m : Str → Option Value) (s : Shared) (Q E : Value → Shared → Prop),
    Below A₀ base outer h₀ → Fr h₀ L s.heap m → (Mine.hd.heap_39 w.params).In h₀ → News h₀ L s.heap news → Top Mine.hd.view_39 (looseW Mine.hd.view_39 [Str.ofString "_twin_re_1", Str.ofString "_twin_re_2"]) mean mg mb h₀ → cs.kind = .function →
    dp + 5 < recursionLimit → un + 100 < cLine → Post h₀ L m s Q →
      wpAny (model Challenge.rw_pd0126_01.row.prog w) (ktrTop dp un gd cn cs L a ccd cl outer) (call (.ref f) vs) Q E s
theorem pieces (w : World) (mean : ExcName → Option Value) (mg mb : Str → Option Value) (news : List (Addr × Obj)) (x more : Str) (tx tm : Tok) (hx : x.length ≤ 500) (hm : more.length ≤ 1) :
   Cr w mean mg mb 159 news [Value.str x tx, Value.str more tm] (fun h₀ L m s Q => ∀ T vs n h' tk', Fr h₀ L h' m → News h₀ L h' ((T, lobj (List.toArray vs) n) :: news) → (∀ p ∈ news, p.1 ≠ T) → StrsAre vs (lawPieces x more) → Q (.ref T) { s with heap := h', toks := tk' }) := by
  unfold Cr
  w_top off
  k_fill
  intro dp un gd cn cs a ccd cl outer A₀ base h₀ L m s Q E hB hF hX hN hT hk hdp hun hret
  refine wpAny_call ?_
  k_dflt (refine' code_def ?k1 ?k2 ?k3 ?k4 ?k5 ?kA ?kF ?kK ?k6 ?k7 ?k8 ?k9 ?kB ?_ ?c2 ?c3 ?c4 ?c5; (case kA => exact rfl); (case kF => exact rfl); (case kK => assumption); (case k1 => k_asm); (case k2 => k_asm); (case k3 => k_asm); (case k4 => k_asm); (case k5 => k_asm); (case k6 => k_is); (case k7 => k_is); (case k8 => ktr_room); (case k9 => exact BindsTo.of_eq rfl); (case c5 => decide); (case kB => exact locs rfl); (case c2 => exact rfl); (case c3 => exact rfl); (case c4 => exact rfl))
  k_whole
  intro g' L' h' FG' F' N' B' X' T'
  (try dsimp only)
  (try k_lift B')
  (try k_fold)
  (iterate 7 (first | walk1 | (dsimp only; walk1)))
  rename_i P hp1 lP hP F1 N1
  refine wpAny_execs_cons ?_
  k_dflt (refine For_listG g' (by rfl) (by rfl) ?_ ?hs ?hE)
  case hs => intro _; with_unfolding_all rfl
  case hE => passes_own
  (try dsimp only)
  (iterate 7 (first | walk1 | (dsimp only; walk1)))
  refine wpAny_with_toks (n := 1) (Nat.le_add_left 1 _) (splitN1 F1 N1 (by decide) ?_ (by have : x.length + 2 ≤ 502 := by omega
                                                                                          exact Nat.le_trans this (by decide)))
  intro sl h3 k3 el F3 N3 hk3
  have hsl : StrsAre (strValues sl) (Txt.split x (Str.ofString "/")) := by rw [← el]; exact strsAre_of sl
  generalize strValues sl = svs at hsl N3
  generalize hSP : (Shared.heap _).objs.size = SP at N3 ⊢
  have hPS : P < SP := by rw [← hSP]; exact Heap.lt_size (N1 _ (.head _)).1
  have hapP : ∀ p ∈ (SP, lobj svs.toArray 0) :: news, p.1 ≠ P := by
    intro p hp
    rcases List.mem_cons.mp hp with e | hp
    · rw [e]; exact Nat.ne_of_gt hPS
    · exact Nat.ne_of_lt (lP p hp)
  refine ⟨SP, svs.toArray, 0, _, _, fun i m₁ nw => ∃ ps k, nw = (P, lobj (List.toArray ps) k) :: (SP, lobj svs.toArray 0) :: news ∧ StrsAre ps (piecesGo more true ((Txt.split x (Str.ofString "/")).take i)) ∧ m₁ (Str.ofString "pieces") = some (.ref P) ∧ m₁ (Str.ofString "more") = some (.str more tm), rfl, rfl, ?jl, F3, (fun p hp => N3 p ?mem : News g' L' h3 ((P, lobj (List.toArray []) 0) :: (SP, lobj svs.toArray 0) :: news)), ⟨[], 0, rfl, .nil, by with_unfolding_all rfl, by with_unfolding_all rfl⟩, ?turn, ?done⟩
  case jl =>
    rintro i m₁ nw ⟨ps, k, rfl, _⟩
    exact .tail _ (.head _)
  case mem =>
    rcases List.mem_cons.mp hp with rfl | hp
    · exact .tail _ (.head _)
    rcases List.mem_cons.mp hp with rfl | hp
    · exact .head _
    · exact .tail _ (.tail _ hp)
  case turn =>
    rintro i v m₁ nw I oI h4 tk4 htk4 hv ⟨ps, k, rfl, hps, mP, mM⟩ F4 N4 off4
    obtain ⟨pv, tp, rfl, hpv⟩ := strsAre_at hsl (by simpa using hv)
    have ht4 : 1 ≤ tk4 := Nat.le_trans hk3 htk4
    clear F3 N3 F1 N1
    have F5 := fr_known (fr_known F4 (a := Str.ofString "pieces") (u := .ref P) (by rw [if_neg (by decide)]; exact mP)) (a := Str.ofString "more") (u := .str more tm) (by rw [if_neg (by decide), if_neg (by decide)]; exact mM)
    clear F4
    change Fr g' L' h4 _ at F5
    change News g' L' h4 _ at N4
    (try dsimp only)
    refine wpAny_execs_cons ?_
    (iterate 5 (first | walk1 | (dsimp only; walk1)))
    rename_i R hr1 lR hR FR NR
    (try dsimp only)
    refine wpAny_execs_cons ?_
    k_dflt (refine For_listG g' (by rfl) (by rfl) ?_ ?hs ?hE)
    case hs => intro _; with_unfolding_all rfl
    case hE => passes_own
    have hpl : pv.length ≤ 500 := Nat.le_trans (split_mem_len (List.mem_of_getElem? hpv)) hx
    (iterate 11 (first | walk1 | (dsimp only; walk1)))
    (try dsimp only)
    refine wpAny_with_toks (n := 1) (by show 1 ≤ tk4 + 1 + 1 + 1; omega) (PySem.SC.replaceW (by show tk4 + 1 ≠ 0; omega) (by show tk4 + 1 + 1 ≠ 0; omega) (by show tk4 + 1 ≠ tk4 + 1 + 1; omega) (by decide) (by omega) (by decide) (fun t6 k6 hk6 => ?_))
    (try dsimp only)
    (iterate 7 (first | walk1 | (dsimp only; walk1)))
    (try dsimp only)
    refine wpAny_with_toks (n := 1) (by show 1 ≤ k6 + 1 + 1; omega) (PySem.SC.replaceW (Nat.ne_of_gt hk6) (by show k6 + 1 ≠ 0; omega) (by show k6 ≠ k6 + 1; omega) (by decide) (by have := norm1_len hpl; omega) (by decide) (fun t7 k7 hk7 => ?_))
    (try dsimp only)
    (iterate 5 (first | walk1 | (dsimp only; walk1)))
    (try dsimp only)
    refine wpAny_with_toks (n := 1) (by show 1 ≤ k7 + 1; omega) (splitN1 FR NR (by decide) ?_ (by have := norm2_len hpl
                                                                                                  exact Nat.le_trans (Nat.add_le_add_right this 2) (by decide)))
    intro rl h8 k8 er F8 N8 hk8
    have hrl : StrsAre (strValues rl) (norm pv) := by
      have := strsAre_of rl
      rw [er] at this; exact this
    generalize strValues rl = rvs at hrl N8
    generalize hSR : (Shared.heap _).objs.size = SR at N8 ⊢
    have hRS : R < SR := by rw [← hSR]; exact Heap.lt_size (NR _ (.head _)).1
    have hapR : ∀ p ∈ (SR, lobj rvs.toArray 0) :: (I, oI) :: (P, lobj (List.toArray ps) k) :: (SP, lobj svs.toArray 0) :: news, p.1 ≠ R := by
      intro p hp
      rcases List.mem_cons.mp hp with rfl | hp
      · exact Nat.ne_of_gt hRS
      rcases List.mem_cons.mp hp with rfl | hp
      · exact Nat.ne_of_lt lR.1
      rcases List.mem_cons.mp hp with rfl | hp
      · exact Nat.ne_of_lt lR.2.1
      rcases List.mem_cons.mp hp with rfl | hp
      · exact Nat.ne_of_lt lR.2.2.1
      · exact allLt_ne _ lR.2.2.2 p hp
    refine ⟨SR, rvs.toArray, 0, _, _, fun j m₂ nw => ∃ rs kr, nw = (R, lobj (List.toArray rs) kr) :: (SR, lobj rvs.toArray 0) :: (I, oI) :: (P, lobj (List.toArray ps) k) :: (SP, lobj svs.toArray 0) :: news ∧ StrsAre rs (rowsGo more ((Txt.split x (Str.ofString "/")).take i).isEmpty ((norm pv).take j)) ∧ m₂ (Str.ofString "rows") = some (.ref R) ∧ m₂ (Str.ofString "pieces") = some (.ref P) ∧ m₂ (Str.ofString "more") = some (.str more tm), rfl, rfl, ?jl2, F8, (fun p hp => N8 p ?mem2 : News g' L' h8 ((R, lobj (List.toArray []) 0) :: (SR, lobj rvs.toArray 0) :: (I, oI) :: (P, lobj (List.toArray ps) k) :: (SP, lobj svs.toArray 0) :: news)), ⟨[], 0, rfl, .nil, by with_unfolding_all rfl, by with_unfolding_all rfl, by with_unfolding_all rfl⟩, ?turn2, ?done2⟩
    case jl2 =>
      rintro i m₁ nw ⟨rs, kr, rfl, _⟩
      exact .tail _ (.head _)
    case mem2 =>
      rcases List.mem_cons.mp hp with rfl | hp
      · exact .tail _ (.head _)
      rcases List.mem_cons.mp hp with rfl | hp
      · exact .head _
      · exact .tail _ (.tail _ hp)
    case turn2 =>
      rintro j v m₂ nw I2 oI2 h9 tk9 htk9 hv2 ⟨rs, kr, rfl, hrs, mR, mP2, mM2⟩ F9 N9 off9
      obtain ⟨rv, tr, rfl, hrv⟩ := strsAre_at hrl (by simpa using hv2)
      clear F8 N8 FR NR
      have F10 := fr_known (fr_known (fr_known F9 (a := Str.ofString "rows") (u := .ref R) (by rw [if_neg (by decide)]; exact mR)) (a := Str.ofString "pieces") (u := .ref P) (by rw [if_neg (by decide), if_neg (by decide)]; exact mP2)) (a := Str.ofString "more") (u := .str more tm) (by rw [if_neg (by decide), if_neg (by decide), if_neg (by decide)]; exact mM2)
      clear F9
      change Fr g' L' h9 _ at F10
      change News g' L' h9 _ at N9
      (try dsimp only)
      refine wpAny_execs_cons ?_
      (iterate 1 (first | walk1 | (dsimp only; walk1)))
      refine cut_val F10 N9 (fun v => v = .bool (decide (piecesGo more true ((Txt.split x (Str.ofString "/")).take i) = []) || !decide (rowsGo more ((Txt.split x (Str.ofString "/")).take i).isEmpty ((norm pv).take j) = []))) ?_ ?_
      · (iterate 6 (first | walk1 | (dsimp only; walk1)))
        rename_i Z hpz F11 N11 lZ
        refine eq_listsT (us := []) (ys := []) (N11 (P, lobj (List.toArray ps) k) (.tail _ (.tail _ (.tail _ (.tail _ (.tail _ (.head _))))))).1 (N11 _ (.head _)).1 hps .nil (by ktr_units) ?_
        (try dsimp only)
        refine wpAny_truthy_bool ?_
        cases hb : decide (piecesGo more true ((Txt.split x (Str.ofString "/")).take i) = [])
        · rw [if_neg (by decide)]
          (iterate 6 (first | walk1 | (dsimp only; walk1)))
          rename_i Z2 hpz2 F12 N12 lZ2
          refine ne_listsT (us := []) (ys := []) (N12 (R, lobj (List.toArray rs) kr) (.tail _ (.tail _ (.tail _ (.head _))))).1 (N12 _ (.head _)).1 hrs .nil (by ktr_units) ?_
          (try dsimp only)
          exact ⟨_, _, rfl, rfl, F12, fun p hp => N12 p (.tail _ (.tail _ hp))⟩
        · rw [if_pos rfl]
          exact ⟨_, _, rfl, rfl, F11, fun p hp => N11 p (.tail _ hp)⟩
      · rintro v h12 tk12 rfl F12 N12
        rw [piecesGo_nil, rowsGo_nil]
        generalize hbg : (((Txt.split x (Str.ofString "/")).take i).isEmpty || !((norm pv).take j).isEmpty) = bg
        clear F10 N9
        (iterate 8 (first | walk1 | (dsimp only; walk1)))
        rename (Fr g' L' _ _) => F13
        rename (News g' L' _ _) => N13
        refine cut_val F13 N13 (fun v => ∃ t, v = .str (rowS more bg rv) t) ?_ ?_
        · (iterate 4 (first | walk1 | (dsimp only; walk1)))
          refine wpAny_truthy_bool ?_
          cases bg
          · rw [if_neg (by decide)]
            (iterate 2 (first | walk1 | (dsimp only; walk1)))
            exact ⟨_, _, ⟨_, rfl⟩, rfl, F13, N13⟩
          · rw [if_pos rfl]
            (iterate 9 (first | walk1 | (dsimp only; walk1)))
            have hrl2 : rv.length ≤ 2003 := norm_mem_len hpl (List.mem_of_getElem? hrv)
            k_dflt (refine slice_strN_ns_len (hsz := ?hsz) (s := ⟨_, _, _, _, _⟩) F13 N13 (fun h15 t15 k15 F15 N15 l15 => ?_) (by with_unfolding_all rfl) (by intro _; with_unfolding_all rfl))
            case hsz => exact Nat.le_trans hrl2 (by decide)
            clear F13 N13
            (iterate 3 (first | walk1 | (dsimp only; walk1)))
            by_cases hd : (Txt.slice rv none (some 1) == Str.ofString ".") = true
            · rw [if_pos hd]
              (iterate 5 (first | walk1 | (dsimp only; walk1)))
              refine PyProof.Rows.add_str (fun t' tk => ?_) ?sz
              case sz => exact Nat.le_trans (Nat.add_le_add hm hrl2) (Nat.le_trans (Nat.le_refl 2004) (by decide))
              refine ⟨_, _, ⟨t', ?_⟩, rfl, F15, N15⟩
              rw [rowS, if_pos ⟨rfl, hd⟩]
            · rw [if_neg hd]
              (iterate 2 (first | walk1 | (dsimp only; walk1)))
              refine ⟨_, _, ⟨tr, ?_⟩, rfl, F15, N15⟩
              rw [rowS, if_neg (fun q => hd q.2)]
        · rintro v h14 tk14 ⟨t14, rfl⟩ F14 N14
          clear F13 N13
          (iterate 1 (first | walk1 | (dsimp only; walk1)))
          (try dsimp only)
          refine append_second (hsz := ?hsz) F14 N14 (off9 _ (.head _)).symm hapR (fun h16 F16 N16 => ?_)
          case hsz => exact Nat.le_trans (by rw [List.size_toArray, strsAre_length hrs, rowsGo_length, List.length_take]; have := (norm_len hpl).2; omega : (List.toArray rs).size ≤ 2004) (by decide)
          rw [List.push_toArray] at N16
          (iterate 2 (first | walk1 | (dsimp only; walk1)))
          refine TurnG.end_ _ F16 N16 (fun p hp => ?_) ?_
          · rcases List.mem_cons.mp hp with rfl | hp
            · exact off9 (R, lobj (List.toArray rs) kr) (.head _)
            · exact off9 p (.tail _ hp)
          refine ⟨_, _, rfl, ?_, ?_, ?_, ?_⟩
          · rw [take_succ_at hrv, rowsGo_snoc, hbg]
            exact strsAre_snoc hrs
          · with_unfolding_all rfl
          · with_unfolding_all rfl
          · with_unfolding_all rfl
    case done2 =>
      rintro h17 tk17 m₂ nw htk17 ⟨rs, kr, rfl, hrs, mR, mP2, mM2⟩ F17 N17
      clear F8 N8 FR NR
      rw [show rvs.toArray.size = (norm pv).length from by rw [List.size_toArray, strsAre_length hrl], List.take_length] at hrs
      have F18 := fr_known (fr_known (fr_known F17 (a := Str.ofString "rows") (u := .ref R) mR) (a := Str.ofString "pieces") (u := .ref P) (by rw [if_neg (by decide)]; exact mP2)) (a := Str.ofString "more") (u := .str more tm) (by rw [if_neg (by decide), if_neg (by decide)]; exact mM2)
      clear F17
      change Fr g' L' h17 _ at F18
      change News g' L' h17 _ at N17
      (try dsimp only)
      (iterate 14 (first | walk1 | (dsimp only; walk1)))
      refine join_listW ⟨_, (N17 (R, lobj (List.toArray rs) kr) (.head _)).1, rfl, _, rfl⟩ hrs (by decide) (rows_weight _ hpl hm) (fun tj kj => ?_)
      (iterate 1 (first | walk1 | (dsimp only; walk1)))
      have N18 : News g' L' h17 ((I, oI) :: (P, lobj (List.toArray ps) k) :: (SP, lobj svs.toArray 0) :: news) := fun p hp => N17 p (.tail _ (.tail _ hp))
      clear N17
      (try dsimp only)
      refine append_second (hsz := ?hsz) F18 N18 (off4 _ (.head _)).symm hapP (fun h19 F19 N19 => ?_)
      case hsz => exact Nat.le_trans (by rw [List.size_toArray, strsAre_length hps, piecesGo_length, List.length_take]; have := split_len x; omega : (List.toArray ps).size ≤ 501) (by decide)
      rw [List.push_toArray] at N19
      (iterate 2 (first | walk1 | (dsimp only; walk1)))
      refine TurnG.end_ _ F19 N19 (fun p hp => ?_) ?_
      · rcases List.mem_cons.mp hp with rfl | hp
        · exact off4 (P, lobj (List.toArray ps) k) (.head _)
        · exact off4 p (.tail _ hp)
      refine ⟨_, _, rfl, ?_, ?_, ?_⟩
      · rw [take_succ_at hpv, piecesGo_snoc]
        exact strsAre_snoc hps
      · with_unfolding_all rfl
      · with_unfolding_all rfl
  case done =>
    rintro h20 tk20 m₁ nw htk20 ⟨ps, k, rfl, hps, mP, mM⟩ F20 N20
    clear F3 N3 F1 N1
    rw [show svs.toArray.size = (Txt.split x (Str.ofString "/")).length from by rw [List.size_toArray, strsAre_length hsl], List.take_length] at hps
    have F21 := fr_known F20 (a := Str.ofString "pieces") (u := .ref P) mP
    clear F20
    change Fr g' L' h20 _ at F21
    change News g' L' h20 _ at N20
    (try dsimp only)
    (iterate 2 (first | walk1 | (dsimp only; walk1)))
    k_dflt (refine LCt.ListComp_T (F₀ := F21) (by with_unfolding_all rfl) (by decide) (by rfl) (by decide) (by rfl) ?_)
    (iterate 1 (first | walk1 | (dsimp only; walk1)))
    refine LCt.CompSrcT.ledger (k := k) rfl F21 N20 (.head _) ?sz fun g10 => ?_
    case sz => exact Nat.le_trans (by rw [List.size_toArray, strsAre_length hps, piecesGo_length]; have := split_len x; omega : (List.toArray ps).size ≤ 501) (by decide)
    refine comp_restT (fun j ws nw3 => nw3 = (P, lobj (List.toArray ps) k) :: (SP, lobj svs.toArray 0) :: news ∧ StrsAre ws (((piecesGo more true (Txt.split x (Str.ofString "/"))).take j).filter (fun p => !(p == Str.ofString "" || p == Str.ofString ".")))) ⟨rfl, .nil⟩ ?fin2 ?turn2
    case turn2 =>
      rintro j ws nw3 v I2 oI2 C2 oC2 D2' m3 h3' tk3' E3 hj ⟨rfl, hws⟩ hv2 hC2 hx2 Fd Nd offd ned
      obtain ⟨cv, tcv, rfl, hcv⟩ := strsAre_at hps (by simpa using hv2)
      (iterate 9 (first | walk1 | (dsimp only; walk1)))
      rename_i Z h16 F16 N16 l16
      refine notin_list_strs (ys := [Str.ofString "", Str.ofString "."]) ⟨_, (N16 _ (.head _)).1, rfl, _, rfl⟩ (.cons _ _ (.cons _ _ .nil)) ?_
      have e : ([Str.ofString "", Str.ofString "."].any (· == cv)) = (cv == Str.ofString "" || cv == Str.ofString ".") := by
        show (Str.ofString "" == cv || (Str.ofString "." == cv || false)) = _
        rw [Bool.or_false, beq_sym cv, beq_sym cv]
      rw [e]
      (try dsimp only)
      refine wpAny_truthy_bool ?_
      have hsrc : LCg.SrcAt g' P (List.toArray ps) ((P, lobj (List.toArray ps) k) :: (SP, lobj svs.toArray 0) :: news) := .inr ⟨_, .head _, rfl, _, rfl⟩
      cases he : !(cv == Str.ofString "" || cv == Str.ofString ".")
      · rw [if_neg (by decide)]
        refine ⟨_, _, _, rfl, F16, fun p hp => N16 p (.tail _ hp), offd, hsrc, rfl, ?_⟩
        rw [take_succ_at hcv, List.filter_append]
        simpa [List.filter, he] using hws
      · rw [if_pos rfl]
        (iterate 1 (first | walk1 | (dsimp only; walk1)))
        refine ⟨_, _, _, rfl, F16, fun p hp => N16 p (.tail _ hp), offd, hsrc, rfl, ?_⟩
        rw [take_succ_at hcv, List.filter_append]
        simp only [List.filter, he]
        exact strsAre_snoc hws
    case fin2 =>
      rintro ws nw3 ⟨rfl, hws⟩ D5 h5' tk5 F5 N5 off5
      rw [show (List.toArray ps).size = (piecesGo more true (Txt.split x (Str.ofString "/"))).length from by rw [List.size_toArray, strsAre_length hps], List.take_length] at hws
      (try dsimp only)
      refine leaveK_ F5 N5 (fun F23 N23 => ?_)
      refine hret D5 ws ws.length _ _ F23 (fun p hp => N23 p ?_) (fun p hp => off1_ne _ off5 p (.tail _ (.tail _ hp))) hws
      rcases List.mem_cons.mp hp with rfl | hp
      · exact .head _
      · exact .tail _ (.tail _ (.tail _ hp))
end Mine
end

noncomputable section
set_option maxRecDepth 100000
namespace Mine
open PySem PySem.W PyProof.Rows PySem.Calls PySem.SeqAt
theorem countP_bools (k : Bool) : ∀ bs : List Bool, (bs.map Value.bool).countP (isBoolOf k) = bs.countP (· == k)
  | [] => rfl
  | b :: r => by
    rw [List.map_cons, List.countP_cons, List.countP_cons, countP_bools k r]
    rfl
theorem count_bools {prog : Program} {w : World} {A : Around} {E : Value → Shared → Prop} {s : Shared} {l : Addr} {bs : List Bool} {k : Bool} {Q : Value → Shared → Prop}
    (hl : s.heap.IsList l (bs.map Value.bool).toArray) (h : Q (.int ((bs.countP (· == k) : Nat) : Int) s.toks) { s with toks := s.toks + 1 }) : wpAny (model prog w) A (call (.builtin "list.count") [.ref l, .bool k]) Q E s := by
  obtain ⟨⟨cls, dd, data, sl⟩, ho, hc, n, hd⟩ := id hl
  simp only at hc hd
  subst hc hd
  refine call_meets PySem.F.slot_list_count ⟨_, ho, rfl⟩ PySem.F.entry_list_count (PySem.F.args_list_count_2 _ _) (list_countAt l _ n dd sl (.bool k) (isBoolOf k)) ⟨ho, fun y hy => ?_, ?_⟩
  · obtain ⟨b, _, rfl⟩ := List.mem_map.mp (by simpa using hy : y ∈ bs.map Value.bool)
    exact EqAt.bool_bool b k
  · rw [show (bs.map Value.bool).toArray.toList = bs.map Value.bool from rfl, countP_bools]
    exact h
theorem lcp_dropLast : ∀ (a b : List Str), b.take a.length ≠ a → lcp a.dropLast b = lcp a b
  | [], _, h => absurd rfl h
  | [a], [], _ => rfl
  | [a], b :: t, h => by
    have : a ≠ b := fun e => h (by rw [e]; rfl)
    show [] = lcp [a] (b :: t)
    rw [lcp, if_neg this]
  | a :: a2 :: r, [], _ => rfl
  | a :: a2 :: r, b :: t, h => by
    rw [List.dropLast_cons₂, lcp, lcp]
    by_cases e : a = b
    · rw [if_pos e, if_pos e, lcp_dropLast (a2 :: r) t (fun q => h (by rw [List.length_cons, List.take_succ_cons, q, e]))]
    · rw [if_neg e, if_neg e]
theorem lcp_whole (a b : List Str) (h : b.take a.length = a) : lcp a b = a := (lcp_end a b h.symm).symm
end Mine
end

noncomputable section
open PySem PySem.W PyProof.Rows
set_option maxRecDepth 100000
set_option maxHeartbeats 2000000
namespace Mine
def rootB (x : Str) : Bool := Txt.slice x none (some 1) == Str.ofString "/"
def dueS (xs : List Str) (more : Str) : Str × Str :=
  match xs with
  | [] => (Str.ofString "refused", Str.ofString "commonpath() arg is an empty sequence")
  | x :: r => if ((x :: r).map rootB).countP (· == rootB x) < (x :: r).length then (Str.ofString "refused", Str.ofString "Can't mix absolute and relative paths") else (Str.ofString "told", (if rootB x = true then Str.ofString "/" else Str.ofString "") ++ Txt.join (Str.ofString "/") (frontS more x r))
/-- a contract for calls from any frame; deeper -/
def Cd (w : World) (mean : ExcName → Option Value) (mg mb : Str → Option Value) (f : Addr) (news : List (Addr × Obj)) (vs : List Value) (Post : Heap → Addr → (Str → Option Value) → Shared → (Value → Shared → Prop) → Prop) : Prop :=
  ∀ (dp un : Nat) (gd : Option (List Code)) (cn : Str) (cs : Scope) (a : Addr) (ccd : Value) (cl : List (Str × Addr)) (outer : List Env) (A₀ : Around) (base h₀ : Heap) (L : Addr) (m : Str → Option Value) (s : Shared) (Q E : Value → Shared → Prop),
    Below A₀ base outer h₀ → Fr h₀ L s.heap m → (Mine.hd.heap_39 w.params).In h₀ → News h₀ L s.heap news → Top Mine.hd.view_39 (looseW Mine.hd.view_39 [Str.ofString "_twin_re_1", Str.ofString "_twin_re_2"]) mean mg mb h₀ → cs.kind = .function →
    dp + 20 < recursionLimit → un + 200 < cLine → Post h₀ L m s Q →
      wpAny (model Challenge.rw_pd0126_01.row.prog w) (ktrTop dp un gd cn cs L a ccd cl outer) (call (.ref f) vs) Q E s
theorem due (w : World) (mean : ExcName → Option Value) (mg mb : Str → Option Value) (news : List (Addr × Obj)) (D : Addr) (vs : List Value) (xs : List Str) (nD : Nat) (more : Str) (tm : Tok) (hv : StrsAre vs xs) (hD : (D, lobj vs.toArray nD) ∈ news) (hn : xs.length ≤ 100) (hlen : ∀ x ∈ xs, x.length ≤ 100) (hm : more.length ≤ 1) :
   Cd w mean mg mb 164 news [Value.ref D, Value.str more tm] (fun h₀ L m s Q => ∀ T o h' tk', Fr h₀ L h' m → News h₀ L h' ((T, o) :: news) → TwoObj o (dueS xs more) → Q (.ref T) { s with heap := h', toks := tk' }) := by
  unfold Cd
  w_top off
  k_fill
  intro dp un gd cn cs a ccd cl outer A₀ base h₀ L m s Q E hB hF hX hN hT hk hdp hun hret
  refine wpAny_call ?_
  k_dflt (refine' code_def ?k1 ?k2 ?k3 ?k4 ?k5 ?kA ?kF ?kK ?k6 ?k7 ?k8 ?k9 ?kB ?_ ?c2 ?c3 ?c4 ?c5; (case kA => exact rfl); (case kF => exact rfl); (case kK => assumption); (case k1 => k_asm); (case k2 => k_asm); (case k3 => k_asm); (case k4 => k_asm); (case k5 => k_asm); (case k6 => k_is); (case k7 => k_is); (case k8 => ktr_room); (case k9 => exact BindsTo.of_eq rfl); (case c5 => decide); (case kB => exact locs rfl); (case c2 => exact rfl); (case c3 => exact rfl); (case c4 => exact rfl))
  k_whole
  intro g' L' h' FG' F' N' B' X' T'
  (try dsimp only)
  (try k_lift B')
  (try k_fold)
  (iterate 3 (first | walk1 | (dsimp only; walk1)))
  (iterate 5 (first | walk1 | (dsimp only; walk1)))
  rename_i P hp1 F1 N1 lP
  refine eq_listsT (us := []) (ys := []) (N1 (D, lobj vs.toArray nD) (.tail _ hD)).1 (N1 _ (.head _)).1 hv .nil (by ktr_units) ?_
  (try dsimp only)
  refine wpAny_truthy_bool ?_
  have N2 : News g' L' hp1 news := fun p hp => N1 p (.tail _ hp)
  clear N1
  cases hv with
  | nil =>
    rw [if_pos (by decide)]
    (iterate 9 (first | walk1 | (dsimp only; walk1)))
    rename (Fr g' L' _ _) => F3
    rename (News g' L' _ _) => N3
    refine leaveK_ F3 N3 (fun F23 N23 => ?_)
    exact hret _ _ _ _ F23 N23 ⟨_, _, rfl⟩
  | @cons x0 t0 vs1 xs1 hv' =>
    rw [if_neg (by simp)]
    (iterate 2 (first | walk1 | (dsimp only; walk1)))
    k_dflt (refine LCg.Assign_ListComp_U (F₀ := F1) (by rfl) (by with_unfolding_all rfl) (by with_unfolding_all rfl) (by decide) (by rfl) (by decide) (by rfl) (by rfl) (by rfl) ?_)
    (iterate 1 (first | walk1 | (dsimp only; walk1)))
    refine LCg.CompSrc.ledger (k := nD) rfl F1 N2 hD ?sz fun g9 => ?_
    case sz => exact Nat.le_trans (by rw [List.size_toArray, strsAre_length (.cons x0 t0 hv')]; exact hn : (Value.str x0 t0 :: vs1).toArray.size ≤ 100) (by decide)
    refine comp_rest (fun i zs nw2 => nw2 = news ∧ zs = (((x0 :: xs1).take i).map rootB).map Value.bool) ⟨rfl, rfl⟩ ?fin ?turn
    case turn =>
      rintro i zs nw2 v I oI C oC' Da m₂ h tk E' hi ⟨rfl, rfl⟩ hvv hC hx Fc Nc offc nec
      obtain ⟨pv, tp, rfl, hpv⟩ := strsAre_at (.cons x0 t0 hv') (by simpa using hvv)
      have hpl : pv.length ≤ 100 := hlen _ (List.mem_of_getElem? hpv)
      (iterate 11 (first | walk1 | (dsimp only; walk1)))
      rename (Fr g' L' _ _) => Fd
      rename (News g' L' _ _) => Nd
      refine ⟨_, _, _, rfl, Fd, Nd, offc, .inr ⟨_, hD, rfl, _, rfl⟩, rfl, ?_⟩
      rw [take_succ_at hpv, List.map_append, List.map_append]
      rfl
    case fin =>
      rintro zs nw2 ⟨rfl, rfl⟩ D5 h5' tk5 F5 N5 off5
      rw [show (Value.str x0 t0 :: vs1).toArray.size = (x0 :: xs1).length from by rw [List.size_toArray, strsAre_length (.cons x0 t0 hv')], List.take_length] at N5
      (try dsimp only)
      (iterate 13 (first | walk1 | (dsimp only; walk1)))
      refine count_bools ⟨_, (N5 _ (.head _)).1, rfl, _, rfl⟩ ?_
      (iterate 6 (first | walk1 | (dsimp only; walk1)))
      refine Calls.call_len_list ⟨_, (N5 _ (.head _)).1, rfl, _, rfl⟩ ?fit ?_
      case fit =>
        have h1 : (x0 :: xs1).length ≤ 100 := hn
        simp only [List.size_toArray, List.length_map]; omega
      (iterate 2 (first | walk1 | (dsimp only; walk1)))
      rw [show (List.map Value.bool (List.map rootB (x0 :: xs1))).toArray.size = (x0 :: xs1).length from by rw [List.size_toArray, List.length_map, List.length_map]]
      by_cases hmix : ((x0 :: xs1).map rootB).countP (· == rootB x0) < (x0 :: xs1).length
      · rw [if_pos (decide_eq_true (Int.ofNat_lt.mpr hmix))]
        (iterate 10 (first | walk1 | (dsimp only; walk1)))
        rename (Fr g' L' _ _) => F7
        rename (News g' L' _ _) => N7
        have hdue : dueS (x0 :: xs1) more = (Str.ofString "refused", Str.ofString "Can't mix absolute and relative paths") := by
          rw [dueS, if_pos hmix]
        refine leaveK_ F7 N7 (fun F23 N23 => ?_)
        exact hret _ _ _ _ F23 (fun p hp => N23 p (by
          rcases List.mem_cons.mp hp with rfl | hp
          · exact .head _
          · exact .tail _ (.tail _ hp))) (by rw [hdue]; exact ⟨_, _, rfl⟩)
      · rw [if_neg (fun q => hmix (Int.ofNat_lt.mp (of_decide_eq_true q)))]
        (iterate 11 (first | walk1 | (dsimp only; walk1)))
        refine item_list (k := 0) (x := Value.str x0 t0) (items := (Value.str x0 t0 :: vs1).toArray) ⟨_, (N5 (D, lobj (Value.str x0 t0 :: vs1).toArray nD) (.tail _ hD)).1, rfl, _, rfl⟩ (by decide) (by decide) rfl ?_
        (iterate 3 (first | walk1 | (dsimp only; walk1)))
        refine ⟨X'.keeps F5.keep, ?_⟩
        refine' pieces w mean mg mb ((D5, LCg.lst (List.map Value.bool (List.map rootB (x0 :: xs1)))) :: nw2) x0 more t0 tm (Nat.le_trans (hlen _ (.head _)) (by decide)) hm _ _ _ _ _ _ _ _ _ _ _ _ _ _ _ _ _ B' ?kF X' ?kN T' ?hk ?hroom ?hunits ?post
        case hk => exact rfl
        case kF => exact F5
        case kN => exact N5
        case hroom => ktr_room
        case hunits => ktr_units
        intro Tf ft nf h8 tk8 F8 N8 off8 hft
        clear N5 F5 F1 N2
        (iterate 3 (first | walk1 | (dsimp only; walk1)))
        rename (Fr g' L' _ _) => F9
        rename (News g' L' _ _) => N9
        have hTD5 : D5 ≠ Tf := off8 _ (.head _)
        k_dflt (refine For_listG g' (by rfl) (by rfl) ?_ ?hs ?hE)
        case hs => intro _; with_unfolding_all rfl
        case hE => passes_own
        (try dsimp only)
        (iterate 7 (first | walk1 | (dsimp only; walk1)))
        k_dflt (refine kmk_slice F9 N9 ⟨_, (N9 (D, lobj (Value.str x0 t0 :: vs1).toArray nD) (.tail _ (.tail _ hD))).1, rfl, _, rfl⟩ (.int _ _) .none (fun Sl h10 F10 N10 l10 => ?_) (by with_unfolding_all rfl) (by intro _; with_unfolding_all rfl) ?sz)
        case sz => exact Nat.le_trans (by rw [List.size_toArray, strsAre_length (.cons x0 t0 hv')]; exact hn : (Value.str x0 t0 :: vs1).toArray.size ≤ 100) (by decide)
        rw [show (some (1 : Int)) = some ((1 : Nat) : Int) from rfl, slicePick_from'] at N10
        have N11 : News g' L' h10 ((Sl, lobj vs1.toArray 0) :: (Tf, lobj (List.toArray ft) nf) :: (D5, LCg.lst (List.map Value.bool (List.map rootB (x0 :: xs1)))) :: nw2) := N10
        clear N10 N9 F9
        have hTS : Tf ≠ Sl := Nat.ne_of_lt (l10 _ (.head _))
        refine ⟨Sl, vs1.toArray, 0, _, _, fun i m₁ nw => ∃ T fs n, nw = (T, lobj (List.toArray fs) n) :: (Sl, lobj vs1.toArray 0) :: (D5, LCg.lst (List.map Value.bool (List.map rootB (x0 :: xs1)))) :: nw2 ∧ StrsAre fs (frontS more x0 (xs1.take i)) ∧ m₁ (Str.ofString "front") = some (.ref T) ∧ m₁ (Str.ofString "more") = some (.str more tm) ∧ m₁ (Str.ofString "roots") = some (.ref D5), rfl, rfl, ?jl, F10, (fun p hp => N11 p ?mem : News g' L' h10 ((Tf, lobj (List.toArray ft) nf) :: (Sl, lobj vs1.toArray 0) :: (D5, LCg.lst (List.map Value.bool (List.map rootB (x0 :: xs1)))) :: nw2)), ⟨Tf, ft, nf, rfl, hft, by with_unfolding_all rfl, by with_unfolding_all rfl, by with_unfolding_all rfl⟩, ?turn, ?done⟩
        case jl =>
          rintro i m₁ nw ⟨T, fs, n, rfl, _⟩
          exact .tail _ (.head _)
        case mem =>
          rcases List.mem_cons.mp hp with rfl | hp
          · exact .tail _ (.head _)
          rcases List.mem_cons.mp hp with rfl | hp
          · exact .head _
          · exact .tail _ (.tail _ hp)
        case turn =>
          rintro i v m₁ nw I oI h12 tk12 htk12 hvi ⟨T, fs, n, rfl, hfs, mF, mM, mR⟩ F12 N12 off12
          obtain ⟨pv, tp, rfl, hpv⟩ := strsAre_at hv' (by simpa using hvi)
          have hpl : pv.length ≤ 100 := hlen _ (.tail _ (List.mem_of_getElem? hpv))
          clear F10 N11
          have F13 := fr_known (fr_known (fr_known F12 (a := Str.ofString "front") (u := .ref T) (by rw [if_neg (by decide)]; exact mF)) (a := Str.ofString "more") (u := .str more tm) (by rw [if_neg (by decide), if_neg (by decide)]; exact mM)) (a := Str.ofString "roots") (u := .ref D5) (by rw [if_neg (by decide), if_neg (by decide), if_neg (by decide)]; exact mR)
          clear F12
          change Fr g' L' h12 _ at F13
          change News g' L' h12 _ at N12
          (try dsimp only)
          refine wpAny_execs_cons ?_
          (iterate 9 (first | walk1 | (dsimp only; walk1)))
          refine ⟨X'.keeps F13.keep, ?_⟩
          refine' pieces w mean mg mb _ pv more tp tm (Nat.le_trans hpl (by decide)) hm _ _ _ _ _ _ _ _ _ _ _ _ _ _ _ _ _ B' ?kF2 X' ?kN2 T' ?hk2 ?hroom2 ?hunits2 ?post2
          case hk2 => exact rfl
          case kF2 => exact F13
          case kN2 => exact N12
          case hroom2 => ktr_room
          case hunits2 => ktr_units
          intro Tp pt np h14 tk14 F14 N14 off14 hpt
          have hTI : T ≠ I := off12 _ (.head _)
          have hpI : Tp ≠ I := Ne.symm (off14 _ (.head _))
          clear F13
          (iterate 2 (first | walk1 | (dsimp only; walk1)))
          rename (Fr g' L' _ _) => F15
          rename (News g' L' _ _) => N15
          refine wpAny_execs_cons ?_
          (try dsimp only)
          k_dflt (refine While_inv (news := (T, lobj (List.toArray fs) n) :: (Tp, lobj (List.toArray pt) np) :: (I, oI) :: (Sl, lobj vs1.toArray 0) :: (D5, LCg.lst (List.map Value.bool (List.map rootB (x0 :: xs1)))) :: nw2) (fun n m₂ nw => ∃ T' fs' n' f', nw = (T', lobj (List.toArray fs') n') :: (Tp, lobj (List.toArray pt) np) :: (I, oI) :: (Sl, lobj vs1.toArray 0) :: (D5, LCg.lst (List.map Value.bool (List.map rootB (x0 :: xs1)))) :: nw2 ∧ T' ≠ I ∧ StrsAre fs' f' ∧ n = f'.length ∧ f'.length ≤ 600 ∧ lcp f' (lawPieces pv more) = lcp (frontS more x0 (xs1.take i)) (lawPieces pv more) ∧ m₂ (Str.ofString "front") = some (.ref T') ∧ m₂ (Str.ofString "pieces") = some (.ref Tp) ∧ m₂ (Str.ofString "more") = some (.str more tm) ∧ m₂ (Str.ofString "roots") = some (.ref D5)) F15 (fun p hp => N15 p ?mem3) ⟨T, fs, n, _, rfl, hTI, hfs, rfl, ?len, rfl, by with_unfolding_all rfl, by with_unfolding_all rfl, by with_unfolding_all rfl, by with_unfolding_all rfl⟩ ?turn3 ?hE3)
          case hE3 => passes_own
          case mem3 =>
            rcases List.mem_cons.mp hp with rfl | hp
            · exact .tail _ (.tail _ (.head _))
            rcases List.mem_cons.mp hp with rfl | hp
            · exact .head _
            rcases List.mem_cons.mp hp with rfl | hp
            · exact .tail _ (.head _)
            · exact .tail _ (.tail _ (.tail _ hp))
          case len => exact Nat.le_trans (frontS_len _ _ _) (by have := hlen x0 (.head _); omega)
          case turn3 =>
            clear F15 N15
            rintro n m₁ news₁ h16 tk16 F16 N16 ⟨T', fs', n', f', rfl, hT'I, hfs', rfl, hlf, hl, mF2, mP2, mM2, mR2⟩
            have F17 := fr_known (fr_known (fr_known (fr_known F16 (a := Str.ofString "front") (u := .ref T') mF2) (a := Str.ofString "pieces") (u := .ref Tp) (by rw [if_neg (by decide)]; exact mP2)) (a := Str.ofString "more") (u := .str more tm) (by rw [if_neg (by decide), if_neg (by decide)]; exact mM2)) (a := Str.ofString "roots") (u := .ref D5) (by rw [if_neg (by decide), if_neg (by decide), if_neg (by decide)]; exact mR2)
            clear F16
            change Fr g' L' h16 _ at F17
            change News g' L' h16 _ at N16
            (try dsimp only)
            have hfl : fs'.length = f'.length := strsAre_length hfs'
            (iterate 12 (first | walk1 | (dsimp only; walk1)))
            refine Calls.call_len_list (items := (List.toArray fs')) ⟨_, (N16 (T', lobj (List.toArray fs') n') (.head _)).1, rfl, _, rfl⟩ (by rw [List.size_toArray]; omega) ?_
            (try dsimp only)
            (iterate 1 (first | walk1 | (dsimp only; walk1)))
            k_dflt (refine kmk_slice F17 N16 ⟨_, (N16 (Tp, lobj (List.toArray pt) np) (.tail _ (.head _))).1, rfl, _, rfl⟩ .none (.int _ _) (fun Dw h18 F18 N18 l18 => ?_) (by with_unfolding_all rfl) (by intro _; with_unfolding_all rfl) ?sz6)
            case sz6 => exact Nat.le_trans (by rw [List.size_toArray, strsAre_length hpt]; exact Nat.le_trans (lawPieces_len _ _) (Nat.succ_le_succ hpl) : (List.toArray pt).size ≤ 101) (by decide)
            rw [slicePick_upto', List.size_toArray, hfl] at N18
            have N19 : News g' L' h18 ((Dw, lobj (List.toArray (pt.take f'.length)) 0) :: (T', lobj (List.toArray fs') n') :: (Tp, lobj (List.toArray pt) np) :: (I, oI) :: (Sl, lobj vs1.toArray 0) :: (D5, LCg.lst (List.map Value.bool (List.map rootB (x0 :: xs1)))) :: nw2) := N18
            clear N18 F17 N16
            (iterate 1 (first | walk1 | (dsimp only; walk1)))
            refine ne_listsT (N19 _ (.head _)).1 (N19 (T', lobj (List.toArray fs') n') (.tail _ (.head _))).1 (strsAre_take hpt f'.length) hfs' (by ktr_units) ?_
            (try dsimp only)
            refine wpAny_truthy_bool ?_
            by_cases heq : (lawPieces pv more).take f'.length = f'
            · rw [if_neg (by rw [decide_eq_true heq]; decide)]
              refine wpAny_execs_nil ?_
              refine TurnG.end_ ((T', lobj (List.toArray fs') n') :: (Sl, lobj vs1.toArray 0) :: (D5, LCg.lst (List.map Value.bool (List.map rootB (x0 :: xs1)))) :: nw2) F18 (fun p hp => N19 p ?mem4) (fun p hp => ?_) ?_
              case mem4 =>
                rcases List.mem_cons.mp hp with rfl | hp
                · exact .tail _ (.tail _ (.tail _ (.head _)))
                rcases List.mem_cons.mp hp with rfl | hp
                · exact .tail _ (.head _)
                · exact .tail _ (.tail _ (.tail _ (.tail _ hp)))
              · rcases List.mem_cons.mp hp with rfl | hp
                · exact hT'I
                · exact off12 p (.tail _ hp)
              · refine ⟨_, _, _, rfl, ?_, by with_unfolding_all rfl, by with_unfolding_all rfl, by with_unfolding_all rfl⟩
                rw [take_succ_at hpv, frontS_snoc, ← hl, lcp_whole _ _ heq]
                exact hfs'
            · rw [if_pos (by rw [decide_eq_false heq]; rfl)]
              (iterate 12 (first | walk1 | (dsimp only; walk1)))
              k_dflt (refine kmk_slice F18 N19 ⟨_, (N19 (T', lobj (List.toArray fs') n') (.tail _ (.head _))).1, rfl, _, rfl⟩ .none (.int _ _) (fun Dn h20 F20 N20 l20 => ?_) (by with_unfolding_all rfl) (by intro _; with_unfolding_all rfl) ?sz5)
              case sz5 => exact Nat.le_trans (by rw [List.size_toArray, hfl]; exact hlf : (List.toArray fs').size ≤ 600) (by decide)
              have e2 : slicePick (List.toArray fs') none (some (-1)) none = (fs'.take (fs'.length - 1)).toArray := slicePick_butLast (List.toArray fs') 1 (Nat.le_refl 1)
              rw [e2] at N20
              have hDI : I ≠ Dn := Nat.ne_of_lt (l20 (I, oI) (.tail _ (.tail _ (.tail _ (.head _)))))
              (iterate 2 (first | walk1 | (dsimp only; walk1)))
              rename (Fr g' L' _ _) => F21
              rename (News g' L' _ _) => N21
              have hne : f' ≠ [] := fun e => heq (by rw [e]; rfl)
              refine WhileStep.intro (n' := f'.dropLast.length) F21 (fun p hp => N21 p ?mem5) ?_ ⟨Dn, fs'.take (fs'.length - 1), 0, f'.dropLast, rfl, hDI.symm, ?_, rfl, ?_, ?_, by with_unfolding_all rfl, by with_unfolding_all rfl, by with_unfolding_all rfl, by with_unfolding_all rfl⟩
              case mem5 =>
                rcases List.mem_cons.mp hp with rfl | hp
                · exact .head _
                · exact .tail _ (.tail _ (.tail _ hp))
              · rw [List.length_dropLast]; exact Nat.sub_lt (List.length_pos_iff.mpr hne) (by decide)
              · rw [hfl, List.dropLast_eq_take]; exact strsAre_take hfs' _
              · rw [List.length_dropLast]; omega
              · rw [lcp_dropLast _ _ heq, hl]
        case done =>
          rintro h22 tk22 m₁ nw htk22 ⟨T, fs, n, rfl, hfs, mF, mM, mR⟩ F22 N22
          clear F10 N11
          rw [show vs1.toArray.size = xs1.length from by rw [List.size_toArray, strsAre_length hv'], List.take_length] at hfs
          have F23 := fr_known (fr_known F22 (a := Str.ofString "front") (u := .ref T) mF) (a := Str.ofString "roots") (u := .ref D5) (by rw [if_neg (by decide)]; exact mR)
          clear F22
          change Fr g' L' h22 _ at F23
          change News g' L' h22 _ at N22
          (try dsimp only)
          (iterate 14 (first | walk1 | (dsimp only; walk1)))
          have hx0 : x0.length ≤ 100 := hlen x0 (.head _)
          have hdue : dueS (x0 :: xs1) more = (Str.ofString "told", (if rootB x0 = true then Str.ofString "/" else Str.ofString "") ++ Txt.join (Str.ofString "/") (frontS more x0 xs1)) := by
            rw [dueS, if_neg hmix]
          have hjl := frontS_join_len xs1 hx0 hm
          by_cases hb : rootB x0 = true
          · rw [if_pos hb]
            rw [if_pos hb] at hdue
            (iterate 8 (first | walk1 | (dsimp only; walk1)))
            refine join_listW ⟨_, (N22 (T, lobj (List.toArray fs) n) (.head _)).1, rfl, _, rfl⟩ hfs (by decide) (frontS_weight xs1 hx0 hm) (fun tj kj => ?_)
            refine PyProof.Rows.add_str (fun t' tk => ?_) ?sz8
            case sz8 => exact Nat.le_trans (Nat.add_le_add (Nat.le_refl 1) hjl) (by decide)
            (iterate 2 (first | walk1 | (dsimp only; walk1)))
            rename (Fr g' L' _ _) => F24
            rename (News g' L' _ _) => N24
            refine leaveK_ F24 N24 (fun F25 N25 => ?_)
            exact hret _ _ _ _ F25 (fun p hp => N25 p (by
              rcases List.mem_cons.mp hp with rfl | hp
              · exact .head _
              · exact .tail _ (.tail _ (.tail _ (.tail _ hp))))) (by rw [hdue]; exact ⟨_, _, rfl⟩)
          · rw [if_neg hb]
            rw [if_neg hb] at hdue
            (iterate 8 (first | walk1 | (dsimp only; walk1)))
            refine join_listW ⟨_, (N22 (T, lobj (List.toArray fs) n) (.head _)).1, rfl, _, rfl⟩ hfs (by decide) (frontS_weight xs1 hx0 hm) (fun tj kj => ?_)
            refine PyProof.Rows.add_str (fun t' tk => ?_) ?sz9
            case sz9 => exact Nat.le_trans (Nat.add_le_add (Nat.le_refl 0) hjl) (by decide)
            (iterate 2 (first | walk1 | (dsimp only; walk1)))
            rename (Fr g' L' _ _) => F24
            rename (News g' L' _ _) => N24
            refine leaveK_ F24 N24 (fun F25 N25 => ?_)
            exact hret _ _ _ _ F25 (fun p hp => N25 p (by
              rcases List.mem_cons.mp hp with rfl | hp
              · exact .head _
              · exact .tail _ (.tail _ (.tail _ (.tail _ hp))))) (by rw [hdue]; exact ⟨_, _, rfl⟩)
end Mine
end

noncomputable section
namespace Mine
open PySem PySem.W PyProof.Rows Builtin Builtin.Str StrLaws
def fixS (x : Str) : Str := mkS (fix (lst x))
def quoS (x : Str) : Str := mkS (stuff true (fix (lst x)))
theorem fixS_len {x : Str} (h : x.length ≤ 50) : (fixS x).length ≤ 100 := by
  have h1 := fix_length (lst x)
  have h2 : (lst x).length = x.length := lst_length x
  rw [← lst_length]
  show (fix (lst x)).length ≤ 100
  omega
theorem quoS_len {x : Str} (h : x.length ≤ 50) : (quoS x).length ≤ 200 := by
  have h1 := fix_length (lst x)
  have h3 := stuff_length (fix (lst x)) true
  have h2 : (lst x).length = x.length := lst_length x
  rw [← lst_length]
  show (stuff true (fix (lst x))).length ≤ 200
  omega
def isDot (x : Str) : Bool := decide ((Txt.split x (Str.ofString "/")).getD 0 ⟨#[]⟩ = Str.ofString ".")
theorem start_slash (x : Str) : Txt.startswith x (Str.ofString "/") = decide ((lst x).head? = some 47) := by
  have hx := lst_length x
  unfold Txt.startswith
  rw [show (Str.ofString "/").length = 1 from by decide, subAt_eq]
  show (decide (0 + 1 ≤ x.length) && (((lst x).drop 0).take 1 == [47])) = _
  rw [← hx, List.drop_zero]
  cases lst x with
  | nil => rfl
  | cons a r => simp; rfl
theorem root_slash (x : Str) : rootB x = decide ((lst x).head? = some 47) := head_is x 47
theorem fix_head : ∀ l : List Nat, (fix l).head? = some 47 ↔ l.head? = some 47 := by
  intro l
  fun_induction fix l with
  | case1 => simp
  | case2 r ih => simp
  | case3 c r h1 h2 ih => rcases h2 with h | h <;> rw [h] <;> simp
  | case4 c r h1 h2 ih => simp
theorem stuff_head (b : Bool) (l : List Nat) : (stuff b l).head? = some 47 ↔ l.head? = some 47 := by
  cases l with
  | nil => simp [stuff]
  | cons c r =>
    rw [stuff]
    split
    · rename_i h; rw [h.2]; simp
    · simp
theorem any_range (f : Str → Bool) (xs : List Str) : ((List.range xs.length).any fun i => f (xs.getD i ⟨#[]⟩)) = xs.any f := by
  rw [Bool.eq_iff_iff, List.any_eq_true, List.any_eq_true]
  constructor
  · rintro ⟨i, hi, h⟩
    have hi' := List.mem_range.mp hi
    rw [List.getD_eq_getElem?_getD, List.getElem?_eq_getElem hi'] at h
    exact ⟨_, List.getElem_mem hi', h⟩
  · rintro ⟨x, hx, h⟩
    obtain ⟨i, hi, e⟩ := List.mem_iff_getElem.mp hx
    refine ⟨i, List.mem_range.mpr hi, ?_⟩
    rw [List.getD_eq_getElem?_getD, List.getElem?_eq_getElem hi]
    show f xs[i] = true
    rw [e]; exact h
theorem mixed_iff (x : Str) (r : List Str) : ((x :: r).map rootB).countP (· == rootB x) < (x :: r).length ↔ ∃ y ∈ x :: r, rootB y ≠ rootB x := by
  rw [List.countP_map]
  have h1 := List.countP_le_length (p := ((· == rootB x) ∘ rootB)) (l := x :: r)
  have h2 := List.countP_eq_length (p := ((· == rootB x) ∘ rootB)) (l := x :: r)
  constructor
  · intro h
    by_cases q : ∃ y ∈ x :: r, rootB y ≠ rootB x
    · exact q
    · exfalso
      have := h2.mpr fun y hy => by
        show (rootB y == rootB x) = true
        rw [beq_iff_eq]
        exact Decidable.byContradiction fun e => q ⟨y, hy, e⟩
      omega
  · rintro ⟨y, hy, e⟩
    refine Nat.lt_of_le_of_ne h1 fun q => ?_
    have := h2.mp q y hy
    exact e (beq_iff_eq.mp this)
theorem mixed_iff2 (x : Str) (r : List Str) : (∃ y ∈ x :: r, rootB y ≠ rootB x) ↔ (((x :: r).any fun y => !rootB y) && (x :: r).any rootB) = true := by
  rw [Bool.and_eq_true, List.any_eq_true, List.any_eq_true]
  constructor
  · rintro ⟨y, hy, e⟩
    cases hx : rootB x
    · rw [hx] at e
      exact ⟨⟨x, .head _, by rw [hx]; rfl⟩, ⟨y, hy, by cases h : rootB y <;> simp_all⟩⟩
    · rw [hx] at e
      exact ⟨⟨y, hy, by cases h : rootB y <;> simp_all⟩, ⟨x, .head _, hx⟩⟩
  · rintro ⟨⟨y, hy, e1⟩, ⟨z, hz, e2⟩⟩
    cases hx : rootB x
    · exact ⟨z, hz, by rw [e2]; decide⟩
    · exact ⟨y, hy, by cases h : rootB y <;> simp_all⟩
theorem law_AB (g : Str → Str) (more : Str) (hp : ∀ x, partsS (g x) = lawPieces x more) (hr : ∀ x, Txt.startswith (g x) (Str.ofString "/") = rootB x) (row : List Str) : askedS (row.map g) = dueS row more := by
  cases row with
  | nil => rfl
  | cons x r =>
    have hA : absA ((x :: r).map g) = (x :: r).any rootB := by
      unfold absA
      rw [any_range (fun y => Txt.startswith y (Str.ofString "/")), List.any_map]
      congr 1
      funext y; exact hr y
    have hR : relA ((x :: r).map g) = (x :: r).any fun y => !rootB y := by
      unfold relA
      rw [any_range (fun y => !Txt.startswith y (Str.ofString "/")), List.any_map]
      congr 1
      funext y
      show (!Txt.startswith (g y) (Str.ofString "/")) = _
      rw [hr y]
    show (if (relA ((x :: r).map g) && absA ((x :: r).map g)) = true then _ else _) = _
    rw [dueS]
    by_cases hm : ∃ y ∈ x :: r, rootB y ≠ rootB x
    · rw [if_pos ((mixed_iff x r).mpr hm), hA, hR, if_pos ((mixed_iff2 x r).mp hm)]
    · rw [if_neg (fun q => hm ((mixed_iff x r).mp q)), hA, hR, if_neg (fun q => hm ((mixed_iff2 x r).mpr q))]
      show (Str.ofString "told", cpS ((x :: r).map g)) = _
      have hany : (x :: r).any rootB = rootB x := by
        rw [Bool.eq_iff_iff, List.any_eq_true]
        constructor
        · rintro ⟨y, hy, e⟩
          rw [← e]
          exact Decidable.byContradiction fun q => hm ⟨y, hy, fun h => q h.symm⟩
        · intro h; exact ⟨x, .head _, h⟩
      unfold cpS
      rw [hA, hany, List.map_map, show partsS ∘ g = fun p => lawPieces p more from funext hp, lcp_minmax (by simp), frontS_all]
      rfl
theorem law_A (row : List Str) : askedS (row.map fixS) = dueS row (Str.ofString "") := by
  refine law_AB fixS _ partsS_fix (fun x => ?_) row
  rw [start_slash, root_slash]
  show decide ((fix (lst x)).head? = some 47) = _
  rw [Bool.eq_iff_iff, decide_eq_true_eq, decide_eq_true_eq, fix_head]
theorem law_B (row : List Str) : askedS (row.map quoS) = dueS row (Str.ofString ".") := by
  refine law_AB quoS _ partsS_stuff (fun x => ?_) row
  rw [start_slash, root_slash]
  show decide ((stuff true (fix (lst x))).head? = some 47) = _
  rw [Bool.eq_iff_iff, decide_eq_true_eq, decide_eq_true_eq, stuff_head, fix_head]
theorem stuff_inj : ∀ (l l' : List Nat) (b : Bool), stuff b l = stuff b l' → l = l'
  | [], [], _, _ => rfl
  | [], c :: r, b, h => by
    rw [stuff, stuff] at h
    split at h <;> simp at h
  | c :: r, [], b, h => by
    rw [stuff, stuff] at h
    split at h <;> simp at h
  | c :: r, d :: t, b, h => by
    rw [stuff, stuff] at h
    split at h
    · rename_i h1
      split at h
      · rename_i h2
        simp only [List.cons.injEq, true_and] at h
        rw [h1.2, h2.2, stuff_inj r t false h]
      · rename_i h2
        simp only [List.cons.injEq] at h
        exact absurd ⟨h1.1, h.1.symm⟩ h2
    · rename_i h1
      split at h
      · rename_i h2
        simp only [List.cons.injEq] at h
        exact absurd ⟨h2.1, h.1⟩ h1
      · simp only [List.cons.injEq] at h
        obtain ⟨e, h⟩ := h
        subst e
        rw [stuff_inj r t _ h]
theorem stuff_nil (b : Bool) (l : List Nat) : stuff b l = [] ↔ l = [] := by
  constructor
  · intro h; exact stuff_inj l [] b (h.trans (by cases b <;> rfl))
  · rintro rfl; cases b <;> rfl
theorem stuff_dot0 (l : List Nat) : stuff false l = [46] ↔ l = [46] :=
  ⟨fun h => stuff_inj l [46] false h, fun h => by rw [h]; rfl⟩
theorem stuff_dot1 (l : List Nat) : stuff true l ≠ [46] := by
  intro h
  cases l with
  | nil => simp [stuff] at h
  | cons c r =>
    rw [stuff] at h
    split at h
    · simp at h
    · rename_i h1
      simp only [List.cons.injEq] at h
      exact h1 ⟨rfl, h.1⟩
theorem fix_fix : ∀ l : List Nat, fix (fix l) = fix l := by
  intro l
  fun_induction fix l with
  | case1 => rfl
  | case2 r ih => rw [fix_two, ih]
  | case3 c r h1 h2 ih => rw [fix_two, ih]
  | case4 c r h1 h2 ih => rw [fix_other (fun e => h2 (.inl e)) (fun e => h2 (.inr e)), ih]
theorem fix_nil (l : List Nat) : fix l = [] ↔ l = [] := by
  constructor
  · intro h
    fun_induction fix l with
    | case1 => rfl
    | case2 r ih => simp at h
    | case3 c r h1 h2 ih => simp at h
    | case4 c r h1 h2 ih => simp at h
  · rintro rfl; rfl
theorem fix_dot (l : List Nat) : fix l = [46] ↔ l = [46] := by
  constructor
  · intro h
    fun_induction fix l with
    | case1 => simp at h
    | case2 r ih => simp at h
    | case3 c r h1 h2 ih => simp at h
    | case4 c r h1 h2 ih =>
      simp only [List.cons.injEq] at h
      rw [h.1, (fix_nil r).mp h.2]
  · rintro rfl; rfl
/-- one piece, quoted -/
def stS (b : Bool) (p : Str) : Str := mkS (stuff b (lst p))
theorem mkS_inj {a b : List Nat} (h : mkS a = mkS b) : a = b := by
  have := congrArg lst h
  exact this
theorem stS_inj (b : Bool) {p q : Str} (h : stS b p = stS b q) : p = q := lst_inj (stuff_inj _ _ b (mkS_inj h))
def qT (t : List Str) : List Str := t.map (stS false)
def quL : List Str → List Str
  | [] => []
  | p :: t => stS true p :: qT t
noncomputable def goS : Bool → List Str → List Str
  | _, [] => []
  | b, p :: t => stS b p :: goS false t
theorem goS_false : ∀ t : List Str, goS false t = qT t
  | [] => rfl
  | p :: t => by rw [goS, goS_false t]; rfl
theorem lst_goS : ∀ (b : Bool) (l : List Str), (goS b l).map lst = stuffGo b (l.map lst)
  | _, [] => rfl
  | b, p :: t => by rw [goS, List.map_cons, lst_goS false t]; rfl
/-- the fixed pieces of a path, before the filter -/
def fp (y : Str) : List Str := piecesGo (Str.ofString "") true (Txt.split y (Str.ofString "/"))
theorem lst_fp (y : Str) : (fp y).map lst = (pcs 47 y).map fix := lst_piecesGo0 true _
theorem fp_ne (y : Str) : fp y ≠ [] := by
  intro h
  have := lst_fp y
  rw [h] at this
  exact pcs_ne 47 y (List.map_eq_nil_iff.mp this.symm)
theorem eL_eq (y : Str) : lawPieces y (Str.ofString "") = (fp y).filter keepS := rfl
theorem uL_eq (y : Str) : lawPieces y (Str.ofString ".") = (goS true (fp y)).filter keepS := by
  show List.filter keepS _ = _
  congr 1
  apply map_lst_inj
  rw [lst_piecesGo1, lst_goS, lst_fp]; rfl
theorem fp_free {y p : Str} (h : p ∈ fp y) : 47 ∉ lst p := by
  have h1 : lst p ∈ (fp y).map lst := List.mem_map_of_mem h
  rw [lst_fp] at h1
  obtain ⟨q, hq, e⟩ := List.mem_map.mp h1
  rw [← e]
  exact fix_free (by decide) (by decide) q (pcs_free 47 y q hq)
theorem fp_fixed {y p : Str} (h : p ∈ fp y) : fix (lst p) = lst p := by
  have h1 : lst p ∈ (fp y).map lst := List.mem_map_of_mem h
  rw [lst_fp] at h1
  obtain ⟨q, hq, e⟩ := List.mem_map.mp h1
  rw [← e, fix_fix]
theorem keep_empty : keepS (Str.ofString "") = false := by decide
theorem keep_dot : keepS (Str.ofString ".") = false := by decide
theorem keepS_iff (p : Str) : keepS p = true ↔ lst p ≠ [] ∧ lst p ≠ [46] := by
  rw [keepS_lst, keepL]
  simp
theorem keep_st0 (p : Str) : keepS (stS false p) = keepS p := by
  rw [Bool.eq_iff_iff, keepS_iff, keepS_iff]
  show stuff false (lst p) ≠ [] ∧ stuff false (lst p) ≠ [46] ↔ _
  rw [Ne, Ne, stuff_nil, stuff_dot0]
theorem keep_st1 (p : Str) : keepS (stS true p) = true ↔ lst p ≠ [] := by
  rw [keepS_iff]
  show stuff true (lst p) ≠ [] ∧ stuff true (lst p) ≠ [46] ↔ _
  rw [Ne, stuff_nil]
  exact ⟨fun h => h.1, fun h => ⟨h, stuff_dot1 _⟩⟩
theorem filter_qT : ∀ t : List Str, (qT t).filter keepS = qT (t.filter keepS)
  | [] => rfl
  | p :: t => by
    show List.filter keepS (stS false p :: qT t) = _
    rw [List.filter_cons, List.filter_cons, keep_st0, filter_qT t]
    split <;> rfl
/-- the kinds of a path -/
theorem kinds (y : Str) : ∃ p0 t, fp y = p0 :: t ∧ (rootB y = true ↔ lst p0 = [] ∧ t ≠ []) ∧ (isDot y = true ↔ lst p0 = [46]) := by
  have hl := lst_fp y
  obtain ⟨p0, t, e⟩ := List.exists_cons_of_ne_nil (fp_ne y)
  obtain ⟨q0, qs, eq⟩ := List.exists_cons_of_ne_nil (pcs_ne 47 y)
  rw [e, eq, List.map_cons, List.map_cons, List.cons.injEq] at hl
  refine ⟨p0, t, e, ?_, ?_⟩
  · have hj := jn_pcs 47 y
    have hf := pcs_free 47 y q0 (by rw [eq]; exact .head _)
    rw [root_slash, decide_eq_true_eq, ← hj, eq, hl.1, fix_nil]
    have ht : t = [] ↔ qs = [] := by
      rw [← List.map_eq_nil_iff (f := lst), hl.2, List.map_eq_nil_iff]
    rw [Ne, ht]
    cases qs with
    | nil =>
      show q0.head? = some 47 ↔ _
      constructor
      · intro h
        cases q0 with
        | nil => simp at h
        | cons a q0 => simp at h; subst h; exact absurd (.head _) hf
      · rintro ⟨_, h⟩; exact absurd rfl h
    | cons q1 qs =>
      show (q0 ++ 47 :: jn [47] (q1 :: qs)).head? = some 47 ↔ _
      cases q0 with
      | nil => simp
      | cons a q0 =>
        simp only [List.cons_append, List.head?_cons, Option.some.injEq]
        constructor
        · intro h; subst h; exact absurd (.head _) hf
        · rintro ⟨h, _⟩; cases h
  · rw [hl.1, fix_dot]
    unfold isDot
    rw [decide_eq_true_eq]
    have h2 : (Txt.split y (Str.ofString "/")).map lst = q0 :: qs := eq
    cases hs : Txt.split y (Str.ofString "/") with
    | nil => rw [hs] at h2; simp at h2
    | cons s0 ss =>
      rw [hs, List.map_cons, List.cons.injEq] at h2
      show s0 = Str.ofString "." ↔ _
      rw [← h2.1]
      exact ⟨fun h => by rw [h]; rfl, fun h => lst_inj h⟩
theorem of_root {y : Str} (h : rootB y = true) : isDot y = false ∧ lawPieces y (Str.ofString ".") = qT (lawPieces y (Str.ofString "")) := by
  obtain ⟨p0, t, e, h1, h2⟩ := kinds y
  obtain ⟨e0, _⟩ := h1.mp h
  have e0' : p0 = Str.ofString "" := lst_inj e0
  refine ⟨?_, ?_⟩
  · cases hd : isDot y
    · rfl
    · have := h2.mp hd; rw [e0] at this; cases this
  · rw [eL_eq, uL_eq, e, goS, goS_false, List.filter_cons, List.filter_cons, e0', keep_empty, if_neg (by decide), if_neg (by decide), filter_qT]
theorem of_dot {y : Str} (h : isDot y = true) : lawPieces y (Str.ofString ".") = Str.ofString ".." :: qT (lawPieces y (Str.ofString "")) := by
  obtain ⟨p0, t, e, h1, h2⟩ := kinds y
  have e0 := h2.mp h
  have e0' : p0 = Str.ofString "." := lst_inj e0
  rw [eL_eq, uL_eq, e, goS, goS_false, List.filter_cons, List.filter_cons, e0', keep_dot, if_neg (by decide : ¬ false = true), if_pos (by decide), filter_qT]
  rfl
theorem of_plain {y : Str} (h : isDot y = false) (hr : rootB y = false) : lawPieces y (Str.ofString ".") = quL (lawPieces y (Str.ofString "")) := by
  obtain ⟨p0, t, e, h1, h2⟩ := kinds y
  rw [eL_eq, uL_eq, e, goS, goS_false, List.filter_cons, List.filter_cons, filter_qT]
  by_cases e0 : lst p0 = []
  · have et : t = [] := Decidable.byContradiction fun q => by rw [h1.mpr ⟨e0, q⟩] at hr; cases hr
    subst et
    have e0' : p0 = Str.ofString "" := lst_inj e0
    rw [e0']
    rfl
  · have hd : lst p0 ≠ [46] := fun q => by rw [h2.mpr q] at h; cases h
    rw [if_pos ((keep_st1 p0).mpr e0), if_pos ((keepS_iff p0).mpr ⟨e0, hd⟩)]
    rfl
end Mine
end

noncomputable section
namespace Mine
open PySem PySem.W PyProof.Rows Builtin Builtin.Str StrLaws
theorem lcp_map (f : Str → Str) (hf : ∀ a b, f a = f b → a = b) : ∀ a b : List Str, lcp (a.map f) (b.map f) = (lcp a b).map f
  | [], _ => by simp [lcp]
  | x :: a, [] => by simp [lcp]
  | x :: a, y :: b => by
    rw [List.map_cons, List.map_cons, lcp, lcp]
    by_cases e : x = y
    · rw [if_pos e, if_pos (by rw [e]), lcp_map f hf a b, List.map_cons]
    · rw [if_neg e, if_neg (fun q => e (hf _ _ q))]; rfl
theorem lcp_qT (a b : List Str) : lcp (qT a) (qT b) = qT (lcp a b) := lcp_map (stS false) (fun _ _ => stS_inj false) a b
theorem lcp_quL (a b : List Str) : lcp (quL a) (quL b) = quL (lcp a b) := by
  cases a with
  | nil => simp [lcp, quL]
  | cons x a =>
    cases b with
    | nil => simp [lcp, quL]
    | cons y b =>
      rw [quL, quL, lcp, lcp]
      by_cases e : x = y
      · rw [if_pos e, if_pos (by rw [e]), lcp_qT, quL]
      · rw [if_neg e, if_neg (fun q => e (stS_inj true q)), quL]
theorem lcp_head (c : Str) (a b : List Str) : lcp (c :: a) (c :: b) = c :: lcp a b := by rw [lcp, if_pos rfl]
theorem foldl_hom (F : List Str → List Str) (hF : ∀ a b, lcp (F a) (F b) = F (lcp a b)) : ∀ (r : List (List Str)) (f : List Str), (r.map F).foldl lcp (F f) = F (r.foldl lcp f)
  | [], _ => rfl
  | a :: r, f => by
    rw [List.map_cons, List.foldl_cons, List.foldl_cons, hF, foldl_hom F hF r]
theorem lcpAll_hom (F : List Str → List Str) (hF : ∀ a b, lcp (F a) (F b) = F (lcp a b)) {L : List (List Str)} (h : L ≠ []) : lcpAll (L.map F) = F (lcpAll L) := by
  cases L with
  | nil => exact absurd rfl h
  | cons a r => exact foldl_hom F hF r a
/-- the common pieces of the two readings -/
def WE (row : List Str) : List Str := lcpAll (row.map fun p => lawPieces p (Str.ofString ""))
def WU (row : List Str) : List Str := lcpAll (row.map fun p => lawPieces p (Str.ofString "."))
theorem WU_of (F : List Str → List Str) (hF : ∀ a b, lcp (F a) (F b) = F (lcp a b)) {row : List Str} (h0 : row ≠ []) (h : ∀ y ∈ row, lawPieces y (Str.ofString ".") = F (lawPieces y (Str.ofString ""))) : WU row = F (WE row) := by
  unfold WU WE
  rw [← lcpAll_hom F hF (by simpa using h0), List.map_map]
  congr 1
  exact List.map_congr_left h
theorem WE_mem {x : Str} {row : List Str} (hx : x ∈ row) {p : Str} (h : p ∈ WE row) : p ∈ fp x ∧ keepS p = true := by
  have h1 : WE row <+: lawPieces x (Str.ofString "") := lcpAll_pre _ (List.mem_map_of_mem (f := fun p => lawPieces p (Str.ofString "")) hx)
  have h2 := h1.subset h
  rw [eL_eq] at h2
  exact List.mem_filter.mp h2
theorem map_fixed : ∀ {W : List Str}, (∀ p ∈ W, fix (lst p) = lst p) → (W.map lst).map fix = W.map lst
  | [], _ => rfl
  | a :: W, h => by
    rw [List.map_cons, List.map_cons, h a (.head _), map_fixed fun p hp => h p (.tail _ hp)]
theorem lst_quL : ∀ W : List Str, (quL W).map lst = stuffGo true (W.map lst)
  | [] => rfl
  | p :: t => by
    rw [quL, List.map_cons, List.map_cons, stuffGo, ← lst_goS, goS_false]; rfl
theorem lst_qT (W : List Str) : (qT W).map lst = stuffGo false (W.map lst) := by rw [← goS_false, lst_goS]
theorem quo_join {W : List Str} (h : ∀ p ∈ W, fix (lst p) = lst p) : quoS (Txt.join (Str.ofString "/") W) = Txt.join (Str.ofString "/") (quL W) := by
  apply lst_inj
  show stuff true (fix (lst (Txt.join (Str.ofString "/") W))) = _
  rw [lst_join, lst_join]
  show stuff true (fix (jn [47] _)) = jn [47] _
  rw [fix_jn, map_fixed h, stuff_jn, lst_quL]
theorem quo_root {W : List Str} (h : ∀ p ∈ W, fix (lst p) = lst p) : quoS (Str.ofString "/" ++ Txt.join (Str.ofString "/") W) = Str.ofString "/" ++ Txt.join (Str.ofString "/") (qT W) := by
  apply lst_inj
  show stuff true (fix (lst (Str.ofString "/" ++ Txt.join (Str.ofString "/") W))) = _
  rw [lst_append, lst_append, lst_join, lst_join]
  show stuff true (fix ([] ++ 47 :: jn [47] _)) = 47 :: jn [47] _
  rw [fix_slash, stuff_slash, fix_jn, map_fixed h, stuff_jn, lst_qT]
  rfl
theorem quoS_nil (z : Str) : quoS z = Str.ofString "" ↔ z = Str.ofString "" := by
  constructor
  · intro h
    have h1 : stuff true (fix (lst z)) = [] := congrArg lst h
    exact lst_inj ((fix_nil _).mp ((stuff_nil true _).mp h1))
  · rintro rfl; rfl
theorem stuffGo_len : ∀ (b : Bool) (l : List (List Nat)), (stuffGo b l).length = l.length
  | _, [] => rfl
  | b, p :: t => by rw [stuffGo, List.length_cons, stuffGo_len false t, List.length_cons]
theorem all_dots {W : List Str} (h : ∀ p ∈ W, 47 ∉ lst p) : Txt.join (Str.ofString "/") (quL W) ≠ Txt.join (Str.ofString "/") (Str.ofString ".." :: qT W) := by
  intro e
  have e1 := congrArg lst e
  rw [lst_join, lst_join, lst_quL, List.map_cons, lst_qT] at e1
  change jn [47] (stuffGo true (W.map lst)) = jn [47] ([46, 46] :: stuffGo false (W.map lst)) at e1
  have hfree : ∀ b, ∀ p ∈ stuffGo b (W.map lst), 47 ∉ p := fun b p hp => by
    obtain ⟨q, hq, b', rfl⟩ := stuffGo_mem _ _ _ hp
    obtain ⟨r, hr, rfl⟩ := List.mem_map.mp hq
    exact stuff_free (by decide) _ _ (h r hr)
  cases W with
  | nil => simp [stuffGo, jn] at e1
  | cons w t =>
    have h2 := jn_inj 47 (stuffGo_ne true (by simp)) (by simp) (hfree true) (fun p hp => by
      rcases List.mem_cons.mp hp with rfl | hp
      · decide
      · exact hfree false p hp) e1
    have h3 := congrArg List.length h2
    rw [List.length_cons, stuffGo_len, stuffGo_len] at h3
    omega
/-- some first pieces are a lone dot, some are not -/
theorem WU_mixed {row : List Str} {a b : Str} (ha : a ∈ row) (hb : b ∈ row) (da : isDot a = true) (db : isDot b = false) (rb : rootB b = false) : WU row = [] := by
  have h1 : WU row <+: lawPieces a (Str.ofString ".") := lcpAll_pre _ (List.mem_map_of_mem (f := fun p => lawPieces p (Str.ofString ".")) ha)
  have h2 : WU row <+: lawPieces b (Str.ofString ".") := lcpAll_pre _ (List.mem_map_of_mem (f := fun p => lawPieces p (Str.ofString ".")) hb)
  rw [of_dot da] at h1
  rw [of_plain db rb] at h2
  cases hw : WU row with
  | nil => rfl
  | cons c r =>
    rw [hw] at h1 h2
    obtain ⟨e1, _⟩ := List.cons_prefix_cons.mp h1
    cases hl : lawPieces b (Str.ofString "") with
    | nil => rw [hl] at h2; simp [quL] at h2
    | cons p t =>
      rw [hl, quL] at h2
      obtain ⟨e2, _⟩ := List.cons_prefix_cons.mp h2
      exfalso
      have e3 : stS true p = stS true (Str.ofString ".") := by rw [← e2, e1]; rfl
      have e4 := stS_inj true e3
      have h5 : p ∈ lawPieces b (Str.ofString "") := by rw [hl]; exact .head _
      rw [eL_eq] at h5
      have := (List.mem_filter.mp h5).2
      rw [e4, keep_dot] at this
      cases this
theorem due_told {x : Str} {r : List Str} {more : Str} (hm : ¬ ∃ y ∈ x :: r, rootB y ≠ rootB x) : dueS (x :: r) more = (Str.ofString "told", (if rootB x = true then Str.ofString "/" else Str.ofString "") ++ Txt.join (Str.ofString "/") (lcpAll ((x :: r).map fun p => lawPieces p more))) := by
  rw [dueS, if_neg (fun q => hm ((mixed_iff x r).mp q)), frontS_all]
theorem empty_app (z : Str) : Str.ofString "" ++ z = z := by
  apply lst_inj
  rw [lst_append]; rfl
theorem law_C (row : List Str) (h : (askedS (row.map fixS)).1 = Str.ofString "told") : decide (quoS (askedS (row.map fixS)).2 = (askedS (row.map quoS)).2) = (decide (row.filter isDot = []) || (!decide (row.filter isDot = row) && decide ((askedS (row.map fixS)).2 = Str.ofString ""))) := by
  rw [law_A] at h ⊢
  rw [law_B]
  cases row with
  | nil => exact absurd h (by decide)
  | cons x r =>
    by_cases hm : ∃ y ∈ x :: r, rootB y ≠ rootB x
    · rw [dueS, if_pos ((mixed_iff x r).mpr hm)] at h
      exact absurd h (by decide)
    · clear h
      rw [due_told hm, due_told hm]
      have hroot : ∀ y ∈ x :: r, rootB y = rootB x := fun y hy => Decidable.byContradiction fun q => hm ⟨y, hy, q⟩
      clear hm
      show decide (quoS (_ ++ Txt.join (Str.ofString "/") (WE (x :: r))) = _ ++ Txt.join (Str.ofString "/") (WU (x :: r))) = (_ || (_ && decide (_ ++ Txt.join (Str.ofString "/") (WE (x :: r)) = _)))
      have hfix : ∀ p ∈ WE (x :: r), fix (lst p) = lst p := fun p hp => fp_fixed (WE_mem (.head _) hp).1
      have hfree : ∀ p ∈ WE (x :: r), 47 ∉ lst p := fun p hp => fp_free (WE_mem (.head _) hp).1
      cases hx : rootB x
      · rw [hx] at hroot
        rw [if_neg (by decide), empty_app, empty_app, quo_join hfix]
        by_cases hd : (x :: r).filter isDot = []
        · have hnd : ∀ y ∈ x :: r, isDot y = false := fun y hy => by
            have := List.filter_eq_nil_iff.mp hd y hy
            simpa using this
          rw [WU_of quL lcp_quL (by simp) (fun y hy => of_plain (hnd y hy) (hroot y hy)), decide_eq_true hd, decide_eq_true rfl]
          rfl
        · rw [decide_eq_false hd, Bool.false_or]
          by_cases ha : (x :: r).filter isDot = x :: r
          · have had : ∀ y ∈ x :: r, isDot y = true := List.filter_eq_self.mp ha
            rw [decide_eq_true ha, WU_of (fun l => Str.ofString ".." :: qT l) (fun a b => by rw [lcp_head, lcp_qT]) (by simp) (fun y hy => of_dot (had y hy)), decide_eq_false (all_dots hfree)]
            rfl
          · rw [decide_eq_false ha]
            have h1 : ∃ a ∈ x :: r, isDot a = true := by
              refine Decidable.byContradiction fun q => hd (List.filter_eq_nil_iff.mpr fun y hy e => q ⟨y, hy, e⟩)
            have h2 : ∃ b ∈ x :: r, isDot b = false := by
              refine Decidable.byContradiction fun q => ha (List.filter_eq_self.mpr fun y hy => ?_)
              cases e : isDot y
              · exact absurd ⟨y, hy, e⟩ q
              · rfl
            obtain ⟨a, ha1, ha2⟩ := h1
            obtain ⟨b, hb1, hb2⟩ := h2
            rw [WU_mixed ha1 hb1 ha2 hb2 (hroot b hb1), ← quo_join hfix]
            show decide (quoS _ = Str.ofString "") = (true && _)
            rw [Bool.true_and, Bool.eq_iff_iff, decide_eq_true_eq, decide_eq_true_eq, quoS_nil]
      · rw [hx] at hroot
        have hd : (x :: r).filter isDot = [] := List.filter_eq_nil_iff.mpr fun y hy e => by
          rw [(of_root (hroot y hy)).1] at e; cases e
        rw [if_pos rfl, quo_root hfix, WU_of qT lcp_qT (by simp) (fun y hy => (of_root (hroot y hy)).2), decide_eq_true hd, decide_eq_true rfl]
        rfl
theorem cat_le' {a b : Str} {i j : Nat} (h1 : a.length ≤ i) (h2 : b.length ≤ j) : (a ++ b).length ≤ i + j := by
  show (a.cps ++ b.cps).size ≤ _
  rw [Array.size_append]
  exact Nat.add_le_add h1 h2
theorem jlen_sub {a b : List Str} (h : a.Sublist b) : (a.map (·.length)).sum + (a.length - 1) ≤ (b.map (·.length)).sum + (b.length - 1) := by
  induction h with
  | slnil => exact Nat.le_refl _
  | cons c h ih =>
    simp only [List.map_cons, List.sum_cons, List.length_cons]
    omega
  | cons_cons c h ih =>
    have := h.length_le
    simp only [List.map_cons, List.sum_cons, List.length_cons]
    rename_i l1 l2
    cases l1 with
    | nil => simp at *; omega
    | cons p l1 =>
      cases l2 with
      | nil => simp at this
      | cons q l2 =>
        simp only [List.map_cons, List.sum_cons, List.length_cons] at *
        omega
theorem law_len (row : List Str) (h : ∀ x ∈ row, x.length ≤ 50) : (askedS (row.map fixS)).2.length ≤ 500 := by
  cases row with
  | nil => decide
  | cons x r =>
    rw [List.map_cons, askedS]
    split
    · decide
    · show (cpS _).length ≤ 500
      unfold cpS
      obtain ⟨y, hy, e⟩ := List.mem_map.mp (minP_mem (L := (fixS x :: r.map fixS).map partsS) (by simp))
      have hyl : y.length ≤ 100 := by
        obtain ⟨z, hz, rfl⟩ := List.mem_map.mp (show y ∈ (x :: r).map fixS from hy)
        exact fixS_len (h z hz)
      have h1 := (lcp_left (minP ((fixS x :: r.map fixS).map partsS)) (maxP ((fixS x :: r.map fixS).map partsS))).sublist
      rw [← e] at h1
      have h2 : (partsS y).Sublist (Txt.split y (Str.ofString "/")) := List.filter_sublist
      have h3 := jlen_sub (h1.trans h2)
      rw [split_sum] at h3
      rw [e] at h3
      have h4 : ∀ b : Bool, (if b = true then Str.ofString "/" else (⟨#[]⟩ : Str)).length ≤ 1 := by decide
      have h5 := h4 (absA (fixS x :: r.map fixS))
      show (_ ++ _ : Str).cps.size ≤ _
      refine Nat.le_trans (cat_le' h5 (j := 100) ?_) (by decide)
      rw [join_size, show (Str.ofString "/").length = 1 from by decide, Nat.mul_one]
      omega
end Mine
end

noncomputable section
set_option maxRecDepth 100000
namespace Mine
open PySem PySem.W PyProof.Rows PySem.Calls
section
variable {prog : Program} {w : World} {A : Around} {E : Value → Shared → Prop} {s : Shared} {h₀ : Heap} {L : Addr}
def TurnC (h₀ : Heap) (L I : Addr) (oI : Obj) (c : Addr) (J : (Str → Option Value) → List (Addr × Obj) → Prop) (Q : Flow → Shared → Prop) (s₁ : Shared) (f : Flow) (s₂ : Shared) : Prop :=
  match f with
  | .ret v => Q (.ret v) s₂
  | .brk => Q .next s₂
  | _ => ∃ h' tk' m₂ nw₂ oc v₂, s₂ = { s₁ with heap := h', toks := tk' } ∧ Fr h₀ L h' m₂ ∧ News h₀ L h' ((I, oI) :: (c, oc) :: nw₂) ∧ oc.data = .cell v₂ ∧ (∀ p ∈ nw₂, p.1 ≠ I ∧ p.1 ≠ c) ∧ J m₂ nw₂
theorem TurnC.end_ {I c : Addr} {oI : Obj} {J : (Str → Option Value) → List (Addr × Obj) → Prop} {Q : Flow → Shared → Prop} {s₁ : Shared} {h' : Heap} {tk' : Nat} {m₂ : Str → Option Value} {oc : Obj} {v₂ : Option Value} (nw₂ : List (Addr × Obj)) (F : Fr h₀ L h' m₂) (N : News h₀ L h' ((I, oI) :: (c, oc) :: nw₂)) (hd : oc.data = .cell v₂) (o : ∀ p ∈ nw₂, p.1 ≠ I ∧ p.1 ≠ c) (j : J m₂ nw₂) :
    TurnC h₀ L I oI c J Q s₁ .next { s₁ with heap := h', toks := tk' } := ⟨h', tk', m₂, nw₂, oc, v₂, rfl, F, N, hd, o, j⟩
def ListSrcC (prog : Program) (w : World) (A : Around) (h₀ : Heap) (env : Env) (c : Addr) (body : List Stmt) (Q : Flow → Shared → Prop) (E : Value → Shared → Prop) (xv : Value) (s₁ : Shared) : Prop :=
  ∃ (l : Addr) (vs : Array Value) (n : Nat) (news : List (Addr × Obj)) (oc₀ : Obj) (v₀ : Option Value) (m : Str → Option Value) (J : Nat → (Str → Option Value) → List (Addr × Obj) → Prop), xv = .ref l ∧ A.handled = none ∧ (∀ i m₁ nw, J i m₁ nw → (l, lobj vs n) ∈ nw) ∧
    Fr h₀ env.locals s₁.heap m ∧ News h₀ env.locals s₁.heap ((c, oc₀) :: news) ∧ oc₀.data = .cell v₀ ∧ (∀ p ∈ news, p.1 ≠ c) ∧ J 0 m news ∧
    (∀ (i : Nat) v m₁ nw I oI oc h tk, s₁.toks ≤ tk → vs[i]? = some v → J i m₁ nw → Fr h₀ env.locals h m₁ → News h₀ env.locals h ((I, oI) :: (c, oc) :: nw) → oc.data = .cell (some v) → (∀ p ∈ nw, p.1 ≠ I ∧ p.1 ≠ c) → I ≠ c →
      wpAny (model prog w) A (execs body env) (TurnC h₀ env.locals I oI c (J (i + 1)) Q { s₁ with heap := h, toks := tk }) E { s₁ with heap := h, toks := tk }) ∧
    (∀ h tk m₁ nw oc v₂, s₁.toks ≤ tk → J vs.size m₁ nw → Fr h₀ env.locals h m₁ → News h₀ env.locals h ((c, oc) :: nw) → oc.data = .cell v₂ → (∀ p ∈ nw, p.1 ≠ c) → Q .next { s₁ with heap := h, toks := tk })
theorem For_listC {Q : Flow → Shared → Prop} {x : Str} {px pos : Pos} {iter : Expr} {body : List Stmt} {cn : Str} {cs : Scope} {a : Addr} {ccd : Value} {cl : List (Str × Addr)} {c : Addr} (h₀ : Heap) (hk : cs.kind = .function) (hx : (envX cn cs L a ccd cl).kindOf x = some .cell) (hc : cl.lookup x = some c)
    (h : wpAny (model prog w) A (eval iter (envX cn cs L a ccd cl)) (ListSrcC prog w A h₀ (envX cn cs L a ccd cl) c body Q E) E s)
    (hs : ∀ x, foldedSetIterable iter (envX cn cs L a ccd cl) x = pure x)
    (hE : PassesOwn (model prog w) A (envX cn cs L a ccd cl) E := by passes_own) :
    wpAny (model prog w) A (exec (.For (.Name x px) iter body [] pos) (envX cn cs L a ccd cl)) Q E s := by
  refine wpAny_For (wpAny_mono h (fun xv s₁ h₁ => ?_) fun _ _ e => e) hs
  obtain ⟨l, vs, n, news, oc₀, v₀, m, J, rfl, hA, hJl, F, N, hd₀, offc, h0, turn, done⟩ := h₁
  have hm0 := hJl 0 m news h0
  have isl : s₁.heap.IsList l vs := ⟨_, (N _ (.tail _ hm0)).1, rfl, _, rfl⟩
  have hlt : l < s₁.heap.objs.size := Heap.lt_size (N _ (.tail _ hm0)).1
  refine wpAny_pyIter_list isl ?_
  have up : ∀ b o, s₁.heap.get? b = some o → (s₁.heap.push { cls := .type "list_iterator", data := .fields #[.ref l, .int 0 0] }).get? b = some o := fun b o e => Heap.get?_push_of_some _ e
  have hLlt : LT.lt (α := Nat) (envX cn cs L a ccd cl).locals s₁.heap.objs.size := F.ns.lt
  have hI₀ : h₀.get? s₁.heap.objs.size = none := next_is_new F
  have hit0 : (s₁.heap.push { cls := .type "list_iterator", data := .fields #[.ref l, .int 0 0] }).IsListIter s₁.heap.objs.size l 0 := ⟨_, Heap.get?_push_size _ rfl, rfl, rfl⟩
  have offI : ∀ p ∈ news, p.1 ≠ s₁.heap.objs.size := fun p hp => Nat.ne_of_lt (Heap.lt_size (N p (.tail _ hp)).1)
  have hcI : s₁.heap.objs.size ≠ c := Ne.symm (Nat.ne_of_lt (Heap.lt_size (N _ (.head _)).1))
  have F0 := F.push { cls := .type "list_iterator", data := .fields #[.ref l, .int 0 0] }
  have N0 : News h₀ (envX cn cs L a ccd cl).locals (s₁.heap.push { cls := .type "list_iterator", data := .fields #[.ref l, .int 0 0] }) ((c, oc₀) :: news) := N.grown up
  generalize s₁.heap.push { cls := .type "list_iterator", data := .fields #[.ref l, .int 0 0] } = hp1 at *
  generalize s₁.heap.objs.size = I at *
  have hIL : I ≠ (envX cn cs L a ccd cl).locals := fun q => by subst q; exact Nat.lt_irrefl _ hLlt
  have hlI : l ≠ I := offI _ hm0
  have W := Walks.list (prog := prog) (w := w) hA I l hlI vs
  refine codeAny_forLoop
    (fun k s' => ∃ h' tk m' news' oc v₂ i, s' = { s₁ with heap := h', toks := tk } ∧ s₁.toks ≤ tk ∧ h'.IsListIter I l i ∧ Fr h₀ (envX cn cs L a ccd cl).locals h' m' ∧ News h₀ (envX cn cs L a ccd cl).locals h' ((c, oc) :: news') ∧ oc.data = .cell v₂ ∧ (∀ p ∈ news', p.1 ≠ I ∧ p.1 ≠ c) ∧ J i m' news' ∧ i ≤ vs.size ∧ k = vs.size + 1 - i) ?_ (vs.size + 1)
    ⟨hp1, s₁.toks, m, news, oc₀, v₀, 0, rfl, Nat.le_refl _, hit0, F0, N0, hd₀, fun p hp => ⟨offI p hp, offc p hp⟩, h0, Nat.zero_le _, rfl⟩
  rintro k s' ⟨h', tk, m', news', oc, v₂, i, rfl, htk, hit', F', N', hd, off', hJ, hi, rfl⟩
  have hlm := hJl i m' news' hJ
  have isl' : h'.IsList l vs := ⟨_, (N' _ (.tail _ hlm)).1, rfl, _, rfl⟩
  have offA : ∀ p ∈ (c, oc) :: news', p.1 ≠ I := fun p hp => by
    rcases List.mem_cons.mp hp with rfl | hp
    · exact hcI.symm
    · exact (off' p hp).1
  by_cases hlt : i < vs.size
  · refine wpAny_with_toks (n := s₁.toks) htk (W.item i _ _ _ hlt ⟨hit', isl'⟩ fun v h₁ tk₁ hv hst₁ hk₁ htk₁ => ?_)
    have hk₁' : ∀ b o, b ≠ I → h'.get? b = some o → h₁.get? b = some o := fun b o hb e => hk₁ b o (by simpa using hb) e
    have F₁ := LCg.fr_but F' hk₁ (Ne.symm hIL) hI₀
    have N₁ : News h₀ (envX cn cs L a ccd cl).locals h₁ ((c, oc) :: news') := LCg.news_but N' hk₁ offA
    have hcm := N₁ (c, oc) (.head _)
    refine wpAny_assign_Name (wpAny_storeName_cell hk hx hc ⟨oc, hcm.1, hd⟩ fun h₂ hv₂ hs₂ => ?_)
    obtain ⟨o', ho', hd'⟩ := hv₂
    have F₂ := fr_same F₁ hs₂.extBut hcm.2.1 hcm.2.2
    obtain ⟨oI, hoI, hIr⟩ := hst₁.1
    have hoI₂ : h₂.get? I = some oI := hs₂.extBut _ _ hcI hoI
    have N₂ : News h₀ (envX cn cs L a ccd cl).locals h₂ ((I, oI) :: (c, o') :: news') := fun p hp => by
      rcases List.mem_cons.mp hp with rfl | hp
      · exact ⟨hoI₂, hIL, hI₀⟩
      rcases List.mem_cons.mp hp with rfl | hp
      · exact ⟨ho', hcm.2⟩
      · exact ⟨hs₂.extBut _ _ (off' p hp).2 (N₁ p (.tail _ hp)).1, (N₁ p (.tail _ hp)).2⟩
    have body := wpAny_toks_of (s := { s₁ with heap := h₂, toks := tk₁ }) (n := s₁.toks) htk₁ (wpAny_passesOwn hE (turn i v m' news' I oI o' h₂ tk₁ htk₁ hv hJ F₂ N₂ hd' off' hcI))
    refine wpAny_mono body (fun f s₃ h₃ => ?_) fun _ _ e => e.2
    obtain ⟨htk₃, h₃⟩ := h₃
    have fin : (∃ h'' tk' m₂ nw₂ oc v₂, s₃ = { { s₁ with heap := h₂, toks := tk₁ } with heap := h'', toks := tk' } ∧ Fr h₀ (envX cn cs L a ccd cl).locals h'' m₂ ∧ News h₀ (envX cn cs L a ccd cl).locals h'' ((I, oI) :: (c, oc) :: nw₂) ∧ oc.data = .cell v₂ ∧ (∀ p ∈ nw₂, p.1 ≠ I ∧ p.1 ≠ c) ∧ J (i + 1) m₂ nw₂) →
        ∃ m, m < vs.size + 1 - i ∧ ∃ h' tk m' news' oc v₂ i, s₃ = { s₁ with heap := h', toks := tk } ∧ s₁.toks ≤ tk ∧ h'.IsListIter I l i ∧ Fr h₀ (envX cn cs L a ccd cl).locals h' m' ∧ News h₀ (envX cn cs L a ccd cl).locals h' ((c, oc) :: news') ∧ oc.data = .cell v₂ ∧ (∀ p ∈ news', p.1 ≠ I ∧ p.1 ≠ c) ∧ J i m' news' ∧ i ≤ vs.size ∧ m = vs.size + 1 - i := by
      rintro ⟨h'', tk', m₂, nw₂, oc₂, v₂, rfl, F₃, N₃, hd₃, off₃, hJ₃⟩
      exact ⟨vs.size + 1 - (i + 1), by omega, h'', tk', m₂, nw₂, oc₂, v₂, i + 1, rfl, htk₃, ⟨oI, (N₃ _ (.head _)).1, hIr⟩, F₃, fun p hp => N₃ p (.tail _ hp), hd₃, off₃, hJ₃, hlt, rfl⟩
    cases f with
    | ret v => exact h₃
    | brk => exact h₃
    | next => exact fin h₃
    | cont => exact fin h₃
  · have hin : i = vs.size := by omega
    subst hin
    refine wpAny_with_toks (n := s₁.toks) htk (W.done _ _ _ ⟨hit', isl'⟩ fun h₁ tk₁ hk₁ htk₁ => wpAny_execs_nil ?_)
    exact done h₁ tk₁ m' news' oc v₂ htk₁ hJ (LCg.fr_but F' hk₁ (Ne.symm hIL) hI₀) (LCg.news_but N' hk₁ offA) hd (fun p hp => (off' p hp).2)
end
end Mine
end

noncomputable section
open PySem PySem.W PyProof.Rows
set_option maxRecDepth 100000
set_option maxHeartbeats 8000000
namespace Mine
theorem pat2 {w : World} {h : Heap} (X : (Mine.hd.heap_39 w.params).In h) : PatAt h 133 c2 := ⟨_, 132, _, _, X 133 _ rfl, rfl, rfl, rfl, X 132 _ rfl, by decide +kernel⟩
theorem pat1 {w : World} {h : Heap} (X : (Mine.hd.heap_39 w.params).In h) : PatAt h 128 c1 := ⟨_, 127, _, _, X 128 _ rfl, rfl, rfl, rfl, X 127 _ rfl, by decide +kernel⟩
theorem PatAt.keeps {h h' : Heap} {P : Addr} {code : Array Nat} (x : PatAt h P code) (hk : ∀ b o, h.get? b = some o → h'.get? b = some o) : PatAt h' P code := by
  obtain ⟨fs, T, ws, n, h1, h2, h3, h4, h5, h6⟩ := x
  exact ⟨fs, T, ws, n, hk _ _ h1, h2, h3, h4, hk _ _ h5, h6⟩
theorem fix_eols (w : World) (mean : ExcName → Option Value) (mg mb : Str → Option Value) (news : List (Addr × Obj)) (x : Str) (tx : Tok) :
   CbClaim Challenge.rw_pd0126_01.row.prog w (Mine.hd.heap_39 w.params) Mine.hd.view_39 (looseW Mine.hd.view_39 [Str.ofString "_twin_re_1", Str.ofString "_twin_re_2"]) mean mg mb 147 news [] (x.length ≤ 500) [Value.str x tx] (fun t => Value.str (mkS (fix (lst x))) t) := by
  w_top off
  k_fill
  dsimp only [CbClaim, CbLists, CbRet]
  intros
  rename_i hret
  refine wpAny_call ?_
  k_dflt cell_enter
  k_steps
  rename (Frag.In _ _) => X
  rename (Fr _ _ _ _) => F1
  rename (News _ _ _ _) => N1
  refine sub_method (code := c2) ((pat2 X).keeps F1.keep) ?_
  k_steps
  refine sub_call srch2 (out := fun i => fix (x.cps.toList.drop i)) ?o1 ?o2 ?o3 ?o4 ((pat2 X).keeps F1.keep) ?_
  case o1 => rw [show (Str.ofString "\x0d\n").cps.toList = [13, 10] from by decide +kernel]; exact outs_fix _
  case o2 => rename (x.length ≤ 500) => hx; exact Nat.le_trans hx (by decide)
  case o3 => decide +kernel
  case o4 => decide +kernel
  intro h' tk y t' hk hy
  have hy' := mkS_of hy
  subst hy'
  have F2 := F1.keeps hk
  have N2 := N1.keeps hk
  clear F1 N1 hk
  k_steps
  exact hret _ _ _ (by assumption) (by assumption)
theorem quotedata (w : World) (mean : ExcName → Option Value) (mg mb : Str → Option Value) (news : List (Addr × Obj)) (x : Str) (tx : Tok) :
   CbClaim Challenge.rw_pd0126_01.row.prog w (Mine.hd.heap_39 w.params) Mine.hd.view_39 (looseW Mine.hd.view_39 [Str.ofString "_twin_re_1", Str.ofString "_twin_re_2"]) mean mg mb 140 news [] (x.length ≤ 500) [Value.str x tx] (fun t => Value.str (mkS (stuff true (fix (lst x)))) t) := by
  k_fill
  dsimp only [CbClaim, CbLists, CbRet]
  intros
  rename_i hret
  refine wpAny_call ?_
  k_dflt cell_enter
  k_steps
  rename (Frag.In _ _) => X
  rename (Fr _ _ _ _) => F1
  rename (News _ _ _ _) => N1
  refine sub_method (code := c1) ((pat1 X).keeps F1.keep) ?_
  k_steps
  refine sub_method (code := c2) ((pat2 X).keeps F1.keep) ?_
  k_steps
  refine sub_call srch2 (out := fun i => fix (x.cps.toList.drop i)) ?o1 ?o2 ?o3 ?o4 ((pat2 X).keeps F1.keep) ?_
  case o1 => rw [show (Str.ofString "\x0d\n").cps.toList = [13, 10] from by decide +kernel]; exact outs_fix _
  case o2 => rename (x.length ≤ 500) => hx; exact Nat.le_trans hx (by decide)
  case o3 => decide +kernel
  case o4 => decide +kernel
  intro h' tk y t' hk hy
  have hy' := mkS_of hy
  subst hy'
  have F2 := F1.keeps hk
  have N2 := N1.keeps hk
  clear F1 N1 hk hy
  k_steps
  rename (Fr _ _ _ _) => F1
  rename (News _ _ _ _) => N1
  refine sub_call srch1 (out := fun i => stuff (i == 0 || (mkS (fix (List.drop 0 x.cps.toList))).cps.getD (i - 1) 0 == 10) ((mkS (fix (List.drop 0 x.cps.toList))).cps.toList.drop i)) ?o1 ?o2 ?o3 ?o4 ((pat1 X).keeps F1.keep) ?_
  case o1 => rw [show (Str.ofString "..").cps.toList = [46, 46] from by decide +kernel]; exact outs_stuff _
  case o2 => rename (x.length ≤ 500) => hx; exact Nat.le_trans (fix_length _) (by have : x.cps.size ≤ 500 := hx; simp; omega)
  case o3 => decide +kernel
  case o4 => decide +kernel
  intro h' tk y t' hk hy
  have hy' := mkS_of hy
  subst hy'
  have F2 := F1.keeps hk
  have N2 := N1.keeps hk
  clear F1 N1 hk hy
  k_steps
  exact hret _ _ _ (by assumption) (by assumption)
end Mine
end

noncomputable section
set_option maxRecDepth 100000
namespace Mine
open PySem PySem.W PyProof.Rows PySem.Calls
section
variable {prog : Program} {w : World} {A : Around} {E : Value → Shared → Prop} {s : Shared} {h₀ : Heap} {env : Env}
def RangeSrc (prog : Program) (w : World) (A : Around) (h₀ : Heap) (env : Env) (x : Str) (body : List Stmt) (Q : Flow → Shared → Prop) (E : Value → Shared → Prop) (xv : Value) (s₁ : Shared) : Prop :=
  ∃ (r : Addr) (a b : Int) (t u v : Tok) (n : Nat) (news : List (Addr × Obj)) (m : Str → Option Value) (J : Nat → (Str → Option Value) → List (Addr × Obj) → Prop), xv = .ref r ∧ A.handled = none ∧ IsRange s₁.heap r a b 1 t u v ∧ Builtin.Range.small a b 1 = true ∧ Builtin.Range.rangeSize a b 1 = ((n : Nat) : Int) ∧
    Fr h₀ env.locals s₁.heap m ∧ News h₀ env.locals s₁.heap news ∧ J 0 m news ∧
    (∀ (i : Nat) t m₁ nw I oI h tk, s₁.toks ≤ tk → i < n → J i m₁ nw → Fr h₀ env.locals h (fun y => if y = x then some (.int (a + (i : Int)) t) else m₁ y) → News h₀ env.locals h ((I, oI) :: nw) → (∀ p ∈ nw, p.1 ≠ I) →
      wpAny (model prog w) A (execs body env) (TurnG h₀ env.locals I oI (J (i + 1)) Q { s₁ with heap := h, toks := tk }) E { s₁ with heap := h, toks := tk }) ∧
    (∀ h tk m₁ nw, s₁.toks ≤ tk → J n m₁ nw → Fr h₀ env.locals h m₁ → News h₀ env.locals h nw → Q .next { s₁ with heap := h, toks := tk })
theorem For_rangeG {Q : Flow → Shared → Prop} {x : Str} {px pos : Pos} {iter : Expr} {body : List Stmt} (h₀ : Heap) (hx : env.kindOf x = some .local)
    (hp : (env.scope.kind == .class || (env.scope.kind == .module && env.locals != env.globals)) = false)
    (h : wpAny (model prog w) A (eval iter env) (RangeSrc prog w A h₀ env x body Q E) E s)
    (hs : ∀ x, foldedSetIterable iter env x = pure x)
    (hE : PassesOwn (model prog w) A env E := by passes_own) :
    wpAny (model prog w) A (exec (.For (.Name x px) iter body [] pos) env) Q E s := by
  refine wpAny_For (wpAny_mono h (fun xv s₁ h₁ => ?_) fun _ _ e => e) hs
  obtain ⟨r, a, b, t, u, v, n, news, m, J, rfl, hA, hr, hsm, hn, F, N, h0, turn, done⟩ := h₁
  refine wpAny_pyIter_range hr hsm ?_
  have hLlt : LT.lt (α := Nat) env.locals s₁.heap.objs.size := F.ns.lt
  have hI₀ : h₀.get? s₁.heap.objs.size = none := next_is_new F
  have offI : ∀ p ∈ news, p.1 ≠ s₁.heap.objs.size := fun p hp => Nat.ne_of_lt (Heap.lt_size (N p hp).1)
  refine codeAny_forLoop
    (fun k s' => ∃ h' tk m' news' i, s' = { s₁ with heap := h', toks := tk } ∧ s₁.toks ≤ tk ∧ IsRangeIter h' s₁.heap.objs.size (a + (i : Nat) * 1) ((n : Int) - (i : Nat)) 1 ∧ Fr h₀ env.locals h' m' ∧ News h₀ env.locals h' news' ∧ (∀ p ∈ news', p.1 ≠ s₁.heap.objs.size) ∧ J i m' news' ∧ i ≤ n ∧ k = n + 1 - i) ?_ (n + 1)
    ⟨_, s₁.toks, m, news, 0, rfl, Nat.le_refl _, (by show IsRangeIter _ _ _ _ _; rw [hn]; simpa using Heap.get?_push_size _ rfl), F.keeps fun _ _ e => Heap.get?_push_of_some _ e, N.grown fun _ _ e => Heap.get?_push_of_some _ e, offI, h0, Nat.zero_le _, rfl⟩
  generalize s₁.heap.objs.size = I at *
  have hIL : I ≠ env.locals := fun q => by subst q; exact Nat.lt_irrefl _ hLlt
  have W := LCg.range_walks (prog := prog) (w := w) (I := I) hA a n
  rintro k s' ⟨h', tk, m', news', i, rfl, htk, hit', F', N', off', hJ, hi, rfl⟩
  by_cases hlt : i < n
  · refine wpAny_with_toks (n := s₁.toks) htk (W.item i _ _ _ hlt hit' fun v h₁ tk₁ hv hst₁ hk₁ htk₁ => ?_)
    obtain ⟨tv, rfl⟩ := hv
    have hk₁' : ∀ b o, b ≠ I → h'.get? b = some o → h₁.get? b = some o := fun b o hb e => hk₁ b o (by simpa using hb) e
    have F₁ := LCg.fr_but F' hk₁ (Ne.symm hIL) hI₀
    refine wpAny_with_toks (n := s₁.toks) htk₁ (wpAny_assign_Name (wpAny_storeName_local hx F₁.ns (fun h₂ hn₂ hs₂ htk₂ => ?_) hp))
    have F₂ := F₁.set hn₂ hs₂
    obtain ⟨oI, hoI, hre⟩ : ∃ oI, h₁.get? I = some oI ∧ ∀ h'' : Heap, h''.get? I = some oI → IsRangeIter h'' I (a + ((i + 1 : Nat) : Nat) * 1) ((n : Int) - ((i + 1 : Nat) : Nat)) 1 := ⟨_, hst₁, fun _ e => e⟩
    have hoI₂ : h₂.get? I = some oI := hs₂.extBut _ _ hIL hoI
    have N₂ : News h₀ env.locals h₂ ((I, oI) :: news') := fun p hp => by
      rcases List.mem_cons.mp hp with rfl | hp
      · exact ⟨hoI₂, hIL, hI₀⟩
      · exact ⟨hs₂.extBut _ _ (N' p hp).2.1 (hk₁' _ _ (off' p hp) (N' p hp).1), (N' p hp).2⟩
    have body := wpAny_toks_of (n := s₁.toks) htk₂ (wpAny_passesOwn hE (turn i tv m' news' I oI h₂ _ htk₂ hlt hJ F₂ N₂ off'))
    refine wpAny_mono body (fun f s₃ h₃ => ?_) fun _ _ e => e.2
    obtain ⟨htk₃, h₃⟩ := h₃
    have fin : (∃ h'' tk' m₂ nw₂, s₃ = { { s₁ with heap := h₂, toks := tk₁ } with heap := h'', toks := tk' } ∧ Fr h₀ env.locals h'' m₂ ∧ News h₀ env.locals h'' ((I, oI) :: nw₂) ∧ (∀ p ∈ nw₂, p.1 ≠ I) ∧ J (i + 1) m₂ nw₂) →
        ∃ m, m < n + 1 - i ∧ ∃ h' tk m' news' i, s₃ = { s₁ with heap := h', toks := tk } ∧ s₁.toks ≤ tk ∧ IsRangeIter h' I (a + (i : Nat) * 1) ((n : Int) - (i : Nat)) 1 ∧ Fr h₀ env.locals h' m' ∧ News h₀ env.locals h' news' ∧ (∀ p ∈ news', p.1 ≠ I) ∧ J i m' news' ∧ i ≤ n ∧ m = n + 1 - i := by
      rintro ⟨h'', tk', m₂, nw₂, rfl, F₃, N₃, off₃, hJ₃⟩
      exact ⟨n + 1 - (i + 1), by omega, h'', tk', m₂, nw₂, i + 1, rfl, htk₃, hre h'' (N₃ _ (.head _)).1, F₃, fun p hp => N₃ p (.tail _ hp), off₃, hJ₃, hlt, rfl⟩
    cases f with
    | ret v => exact h₃
    | brk => exact h₃
    | next => exact fin h₃
    | cont => exact fin h₃
  · have hin : i = n := by omega
    subst hin
    refine wpAny_with_toks (n := s₁.toks) htk (W.done _ _ _ hit' fun h₁ tk₁ hk₁ htk₁ => wpAny_execs_nil ?_)
    exact done h₁ tk₁ m' news' htk₁ hJ (LCg.fr_but F' hk₁ (Ne.symm hIL) hI₀) (LCg.news_but N' hk₁ off')
end
end Mine
end

noncomputable section
open PySem PySem.W PyProof.Rows
set_option maxRecDepth 100000
set_option maxHeartbeats 4000000
namespace Mine
theorem sgn_len : ∀ s ∈ [Str.ofString "a", Str.ofString "/", Str.ofString ".", Str.ofString "\n", Str.ofString "\x0d", Str.ofString "./", Str.ofString "/.", Str.ofString "\x85"], s.length ≤ 2 := by decide
theorem cat_len {a b : Str} {i : Nat} (h1 : a.length ≤ 12 * i) (h2 : b.length ≤ 12) : (a ++ b).length ≤ 12 * (i + 1) := by
  show (a.cps ++ b.cps).size ≤ _
  rw [Array.size_append]
  have h1' : a.cps.size ≤ 12 * i := h1
  have h2' : b.cps.size ≤ 12 := h2
  omega
theorem strsAre_drop' : ∀ {vs : List Value} {ys : List Str}, StrsAre vs ys → ∀ k : Nat, StrsAre (vs.drop k) (ys.drop k)
  | _, _, h, 0 => h
  | _, _, .nil, _ + 1 => .nil
  | _, _, .cons _ _ h, k + 1 => strsAre_drop' h k
theorem cat_le {a b : Str} {i j : Nat} (h1 : a.length ≤ i) (h2 : b.length ≤ j) : (a ++ b).length ≤ i + j := by
  show (a.cps ++ b.cps).size ≤ _
  rw [Array.size_append]
  exact Nat.add_le_add h1 h2
theorem seq_last (i : Nat) : seqIndex? (-1) (i + 1) = some i := by
  unfold seqIndex?
  rw [if_pos (by decide : (-1 : Int) < 0), if_pos (by rw [Bool.and_eq_true, decide_eq_true_eq, decide_eq_true_eq]; omega)]
  congr 1
  omega
theorem sgn_news {h₀ h : Heap} {L : Nat} {Tx Sg : Addr} {o1 : Obj} {pD p3 p2 p1 : Addr × Obj} {t1 t2 t3 t4 t5 t6 t7 t8 : Tok} (N : News h₀ L h ((Tx, o1) :: ([(Sg, W.listOf #[.str (Str.ofString "a") t1, .str (Str.ofString "/") t2, .str (Str.ofString ".") t3, .str (Str.ofString "\n") t4, .str (Str.ofString "\x0d") t5, .str (Str.ofString "./") t6, .str (Str.ofString "/.") t7, .str (Str.ofString "\x85") t8] 0), pD, p3] ++ [p2, p1]))) :
    ∃ svs : List Value, StrsAre svs [Str.ofString "a", Str.ofString "/", Str.ofString ".", Str.ofString "\n", Str.ofString "\x0d", Str.ofString "./", Str.ofString "/.", Str.ofString "\x85"] ∧ News h₀ L h [p3, (Tx, o1), (Sg, lobj (List.toArray svs) 0), pD, p2, p1] := by
  refine ⟨[.str (Str.ofString "a") t1, .str (Str.ofString "/") t2, .str (Str.ofString ".") t3, .str (Str.ofString "\n") t4, .str (Str.ofString "\x0d") t5, .str (Str.ofString "./") t6, .str (Str.ofString "/.") t7, .str (Str.ofString "\x85") t8], .cons _ _ (.cons _ _ (.cons _ _ (.cons _ _ (.cons _ _ (.cons _ _ (.cons _ _ (.cons _ _ .nil))))))), fun p hp => N p ?_⟩
  rcases List.mem_cons.mp hp with e | hp
  · rw [e]; exact .tail _ (.tail _ (.tail _ (.head _)))
  rcases List.mem_cons.mp hp with e | hp
  · rw [e]; exact .head _
  rcases List.mem_cons.mp hp with e | hp
  · rw [e]; exact .tail _ (.head _)
  rcases List.mem_cons.mp hp with e | hp
  · rw [e]; exact .tail _ (.tail _ (.head _))
  · exact .tail _ (.tail _ (.tail _ (.tail _ hp)))
theorem lawHolds : PySem.Challenge.rw_pd0126_01.Holds := by
  w_top off
  refine Mine.hd ?_
  w_strict k_go0
  all_goals (try k_fold)
  rename Shared => s1
  rename Top _ _ _ _ _ _ => T0
  rename Below _ _ _ _ => B0
  rename (Fr _ _ _ _) => F0
  rename (News _ _ _ _) => N0
  rename IntsAre _ _ => hI
  rename (Heap.IsList _ _ _) => hL
  rename (¬ _ < _) => hlen
  have hB := B0
  clear hB
  (iterate 18 (first | walk1 | (dsimp only; walk1)))
  rename (Fr _ _ _ _) => F1
  rename (News _ _ _ _) => N1
  rename IntsAre _ (_ ++ _) => hI1
  refine kba_turn (value' := PySem.Expr.Name (PySem.Str.ofString "_") ⟨0, 0, 0, 0⟩) (fun _ => rfl) ?_
  k_dflt (refine kmk_slice F1 N1 ⟨_, (N1 _ (.head _)).1, rfl, _, rfl⟩ .none (.int _ _) (fun Dd h2 F2 N2 l2 => ?_) (by with_unfolding_all rfl) (by intro _; with_unfolding_all rfl) ?sz)
  case sz => exact Nat.le_trans (by
    have h1 := hI1.length
    rw [List.length_append] at h1
    rw [List.size_toArray, h1]
    have : (63 : Int) ≥ (List.length _ : Nat) := Int.not_lt.mp hlen
    show _ + 2 ≤ 65
    omega : (List.toArray _).size ≤ 65) (by decide)
  rw [show (some (4 : Int)) = some ((4 : Nat) : Int) from rfl, slicePick_upto'] at N2
  clear F1
  rename_i o3 o2 o1 c3 c2 c1 X0 tl th l1 TD Tws Th l1'
  have hI2 := hI1.take 4
  have hId : ∃ ds : List Value, ∃ ns : List Int, ds = Tws.take 4 ∧ IntsAre ds ns ∧ 2 ≤ ns.length ∧ ns.length ≤ 4 := ⟨_, _, rfl, hI2, by rw [List.length_take, List.length_append, List.length_cons, List.length_cons, List.length_nil]; omega, by rw [List.length_take]; exact Nat.min_le_left _ _⟩
  obtain ⟨ds, ns, hds, hIn, hn2, hn4⟩ := hId
  rw [show List.take 4 Tws.toArray.toList = ds from hds.symm] at N2
  refine store_cell (cl := cellsFrom (_ + 1) _ []) (pre := [_, _, _, _, _]) F2 N2 rfl c1 ?p1 ?p2 ?_ rfl rfl
  case p1 =>
    intro p hp
    rcases List.mem_cons.mp hp with rfl | hp
    · exact Nat.ne_of_gt (l2 (_, o1) (.tail _ (.tail _ (.tail _ (.tail _ (.head _))))))
    rcases List.mem_cons.mp hp with rfl | hp
    · exact Nat.ne_of_gt l1'.2.2.2
    rcases List.mem_cons.mp hp with rfl | hp
    · exact Nat.ne_of_gt l1.2.2
    rcases List.mem_cons.mp hp with rfl | hp
    · exact Nat.ne_of_gt (Nat.lt_succ_of_lt (Nat.lt_succ_self _))
    rcases List.mem_cons.mp hp with rfl | hp
    · exact Nat.ne_of_gt (Nat.lt_succ_self _)
    · cases hp
  case p2 => intro p hp; cases hp
  intro h3 od F3 N3 dd
  clear F2 N2 hI1 hI2 hds N1
  simp only [List.cons_append, List.nil_append] at N3
  have N4 : News s1.heap s1.heap.objs.size h3 [(Dd, lobj (List.toArray ds) 0), (s1.heap.objs.size + 1 + 1 + 1, o3), (s1.heap.objs.size + 1 + 1, o2), (s1.heap.objs.size + 1, od)] := fun p hp => N3 p (by
    rcases List.mem_cons.mp hp with rfl | hp
    · exact .head _
    · exact .tail _ (.tail _ (.tail _ hp)))
  clear N3
  (iterate 22 (first | walk1 | (dsimp only; walk1)))
  (iterate 10 (first | walk1 | (dsimp only; walk1)))
  rename_i Sg h4 l4 h5 og dg tka Tx h6 lT h7 F7 N7
  have hTS : @LT.lt Nat _ Sg Tx := lT _ (.head _)
  have hTD : @LT.lt Nat _ Dd Tx := lT _ (.tail _ (.head _))
  have hT3 : @LT.lt Nat _ (s1.heap.objs.size + 1 + 1 + 1) Tx := lT _ (.tail _ (.tail _ (.head _)))
  have hT2 : @LT.lt Nat _ (s1.heap.objs.size + 1 + 1) Tx := lT _ (.tail _ (.tail _ (.tail _ (.head _))))
  have hT1 : @LT.lt Nat _ (s1.heap.objs.size + 1) Tx := lT _ (.tail _ (.tail _ (.tail _ (.tail _ (.head _)))))
  have N8 := sgn_news N7
  obtain ⟨svs, hsv, N9⟩ := N8
  clear N7
  (try dsimp only)
  refine wpAny_execs_cons ?_
  k_dflt (refine For_listC s1.heap (cl := cellsFrom (_ + 1) _ []) (c := s1.heap.objs.size + 1 + 1 + 1) (by rfl) (by rfl) (by rfl) ?_ ?hs ?hE)
  case hs => intro _; with_unfolding_all rfl
  case hE => passes_own
  (try dsimp only)
  (iterate 1 (first | walk1 | (dsimp only; walk1)))
  refine ⟨Dd, List.toArray ds, 0, [(Tx, lobj (List.toArray [Value.str (Str.ofString "") tka]) 0), (Sg, lobj (List.toArray svs) 0), (Dd, lobj (List.toArray ds) 0), (s1.heap.objs.size + 1 + 1, og), (s1.heap.objs.size + 1, od)], o3, _, _, fun i m₁ nw => ∃ ts n xs, nw = [(Tx, lobj (List.toArray ts) n), (Sg, lobj (List.toArray svs) 0), (Dd, lobj (List.toArray ds) 0), (s1.heap.objs.size + 1 + 1, og), (s1.heap.objs.size + 1, od)] ∧ StrsAre ts xs ∧ xs.length = i + 1 ∧ (∀ x ∈ xs, x.length ≤ 12 * i) ∧ m₁ (Str.ofString "texts") = some (.ref Tx), rfl, rfl, ?jl, F7, N9, c3, ?off, ⟨_, _, _, rfl, .cons _ _ .nil, rfl, ?sm, by with_unfolding_all rfl⟩, ?turn, ?done⟩
  case jl =>
    rintro i m₁ nw ⟨ts, n, xs, rfl, _⟩
    exact .tail _ (.tail _ (.head _))
  case off =>
    intro p hp
    rcases List.mem_cons.mp hp with rfl | hp
    · exact Nat.ne_of_gt hT3
    rcases List.mem_cons.mp hp with rfl | hp
    · exact Nat.ne_of_gt l4.2.1
    rcases List.mem_cons.mp hp with rfl | hp
    · exact Nat.ne_of_gt (l2 (_, o3) (.tail _ (.tail _ (.head _))))
    rcases List.mem_cons.mp hp with rfl | hp
    · exact Nat.ne_of_lt (Nat.lt_succ_self _)
    rcases List.mem_cons.mp hp with rfl | hp
    · exact Nat.ne_of_lt (Nat.lt_succ_of_lt (Nat.lt_succ_self _))
    · cases hp
  case sm => intro x hx; rw [List.mem_singleton.mp hx]; decide
  case turn =>
    rintro i v m₁ nw I oI oc h9 tk9 htk9 hvi ⟨ts, n, xs, rfl, hts, hxl, hxm, mT⟩ F9 N10 hcd off9 hcI
    obtain ⟨k, tx, rfl, hk⟩ := hIn.at i v (by simpa using hvi)
    have F10 := fr_known F9 (a := Str.ofString "texts") (u := .ref Tx) mT
    clear F9 F7 N9
    change Fr s1.heap s1.heap.objs.size h9 _ at F10
    change News s1.heap s1.heap.objs.size h9 _ at N10
    (try dsimp only)
    (iterate 14 (first | walk1 | (dsimp only; walk1)))
    have htl : ts.length = i + 1 := by rw [strsAre_length hts, hxl]
    obtain ⟨lv, lt, e1, e2, _⟩ := strsAre_get hts i (by omega)
    have hlv : lv.length ≤ 12 * i := hxm lv (List.mem_of_getElem? e2)
    have hi4 : i < 4 := by
      have h1 := List.getElem?_eq_some_iff.mp hk
      obtain ⟨h1, _⟩ := h1
      omega
    refine kde_neg (j := i) (v := Value.str lv lt) ⟨_, (N10 (Tx, lobj (List.toArray ts) n) (.tail _ (.tail _ (.head _)))).1, rfl, _, rfl⟩ (by decide) (by decide) ?seq e1 ?_
    case seq => rw [htl]; exact seq_last i
    (iterate 8 (first | walk1 | (dsimp only; walk1)))
    k_dflt (refine slice_strN_ns_len (hsz := ?hsz) (s := ⟨_, _, _, _, _⟩) F10 N10 (fun h11 t11 k11 F11 N11 l11 => ?_) (by with_unfolding_all rfl) (by intro _; with_unfolding_all rfl))
    case hsz => exact Nat.le_trans (Nat.le_trans hlv (Nat.mul_le_mul_left 12 (Nat.le_of_lt hi4))) (by decide)
    clear F10 N10
    (iterate 5 (first | walk1 | (dsimp only; walk1)))
    k_dflt (refine LCg.ListComp_U (F₀ := F11) (by with_unfolding_all rfl) (by decide) (by rfl) (by decide) (by rfl) ?_)
    (iterate 7 (first | walk1 | (dsimp only; walk1)))
    rename (Fr _ _ _ _) => F12
    rename (News _ _ _ _) => N12
    rename (IsRange _ _ _ _ _ _ _ _) => hR
    refine LCg.CompSrc.range (n := 6) rfl F12 N12 hR (by decide) (by decide) (by decide) fun g12 => ?_
    refine comp_rest (fun j zs nw2 => nw2 = (I, oI) :: (s1.heap.objs.size + 1 + 1 + 1, oc) :: [(Tx, lobj (List.toArray ts) n), (Sg, lobj (List.toArray svs) 0), (Dd, lobj (List.toArray ds) 0), (s1.heap.objs.size + 1 + 1, og), (s1.heap.objs.size + 1, od)] ∧ ∃ ys, StrsAre zs ys ∧ (∀ y ∈ ys, y.length ≤ 2) ∧ ys.length = j) ⟨rfl, [], .nil, (fun y hy => by cases hy), rfl⟩ ?fin3 ?turn3
    case turn3 =>
      rintro j zs nw2 v I2 oI2 C2 oC2 D2 m₂ h13 tk13 E' hj ⟨rfl, ys, hzs, hy2, hyl⟩ ⟨tj, rfl⟩ hC hx Fc Nc offc nec
      (iterate 9 (first | walk1 | (dsimp only; walk1)))
      (try dsimp only)
      have h8 : (8 : Int) ^ (0 + (j : Int)).toNat ≠ 0 := Int.pow_ne_zero (by decide)
      refine PyProof.Rows.floordiv_int h8 ?_
      (iterate 2 (first | walk1 | (dsimp only; walk1)))
      have hm0 : 0 ≤ (k.fdiv (8 ^ (0 + (j : Int)).toNat)).fmod 8 := Int.fmod_nonneg_of_pos _ (by decide)
      have hm1 : (k.fdiv (8 ^ (0 + (j : Int)).toNat)).fmod 8 < 8 := Int.fmod_lt_of_pos _ (by decide)
      generalize (k.fdiv (8 ^ (0 + (j : Int)).toNat)).fmod 8 = ix at hm0 hm1 ⊢
      have hsl : svs.length = 8 := strsAre_length hsv
      obtain ⟨sx, st', e3, e4, _⟩ := strsAre_get hsv ix.toNat (by omega)
      have hsx : sx.length ≤ 2 := sgn_len sx (List.mem_of_getElem? e4)
      refine PyProof.Rows.item_list (x := Value.str sx st') ⟨_, (Nc (Sg, lobj (List.toArray svs) 0) (.tail _ (.tail _ (.tail _ (.tail _ (.tail _ (.tail _ (.head _)))))))).1, rfl, _, rfl⟩ hm0 (by omega) (by simpa using e3) ?_
      refine ⟨_, _, _, rfl, Fc, Nc, offc, trivial, rfl, ys ++ [sx], strsAre_snoc hzs, ?_, ?_⟩
      · intro y hy
        rcases List.mem_append.mp hy with hy | hy
        · exact hy2 y hy
        · rw [List.mem_singleton.mp hy]; exact hsx
      · rw [List.length_append, hyl]; rfl
    case fin3 =>
      rintro zs nw2 ⟨rfl, ys, hzs, hy2, hyl⟩ D5 h5' tk5 F5 N5 off5
      (try dsimp only)
      have hsum := sum_le_mul ys hy2
      rw [hyl] at hsum
      have hjn : (Txt.join (Str.ofString "") ys).length ≤ 12 := by
        rw [join_size, show (Str.ofString "").length = 0 from by decide]; omega
      (iterate 1 (first | walk1 | (dsimp only; walk1)))
      refine join_listW ⟨_, (N5 _ (.head _)).1, rfl, _, rfl⟩ hzs (by decide) (by omega) (fun tj kj => ?_)
      refine PyProof.Rows.add_str (fun t' tk => ?_) ?sz9
      case sz9 => exact Nat.le_trans (Nat.add_le_add (Nat.le_trans l11 (Nat.le_trans hlv (Nat.mul_le_mul_left 12 (Nat.le_of_lt hi4)))) hjn) (by decide)
      (iterate 1 (first | walk1 | (dsimp only; walk1)))
      have N6 : News s1.heap s1.heap.objs.size h5' ((I, oI) :: (Tx, lobj (List.toArray ts) n) :: (s1.heap.objs.size + 1 + 1 + 1, oc) :: [(Sg, lobj (List.toArray svs) 0), (Dd, lobj (List.toArray ds) 0), (s1.heap.objs.size + 1 + 1, og), (s1.heap.objs.size + 1, od)]) := fun p hp => N5 p (by
        rcases List.mem_cons.mp hp with rfl | hp
        · exact .tail _ (.head _)
        rcases List.mem_cons.mp hp with rfl | hp
        · exact .tail _ (.tail _ (.tail _ (.head _)))
        rcases List.mem_cons.mp hp with rfl | hp
        · exact .tail _ (.tail _ (.head _))
        · exact .tail _ (.tail _ (.tail _ (.tail _ hp))))
      clear N5
      refine append_second (hsz := ?hsz2) F5 N6 (off9 (Tx, lobj (List.toArray ts) n) (.head _)).1.symm ?hap (fun h16 F16 N16 => ?_)
      case hsz2 => exact Nat.le_trans (by rw [List.size_toArray, htl]; omega : (List.toArray ts).size ≤ 5) (by decide)
      case hap =>
        intro p hp
        rcases List.mem_cons.mp hp with rfl | hp
        · exact (off9 (Tx, lobj (List.toArray ts) n) (.head _)).2.symm
        rcases List.mem_cons.mp hp with rfl | hp
        · exact Nat.ne_of_lt hTS
        rcases List.mem_cons.mp hp with rfl | hp
        · exact Nat.ne_of_lt hTD
        rcases List.mem_cons.mp hp with rfl | hp
        · exact Nat.ne_of_lt hT2
        rcases List.mem_cons.mp hp with rfl | hp
        · exact Nat.ne_of_lt hT1
        · cases hp
      rw [List.push_toArray] at N16
      clear N6 F5
      (iterate 2 (first | walk1 | (dsimp only; walk1)))
      refine TurnC.end_ (oc := oc) [(Tx, lobj (List.toArray (ts ++ [Value.str (Txt.slice lv none (some (k.fmod 5)) ++ Txt.join (Str.ofString "") ys) t'])) (n + 1)), (Sg, lobj (List.toArray svs) 0), (Dd, lobj (List.toArray ds) 0), (s1.heap.objs.size + 1 + 1, og), (s1.heap.objs.size + 1, od)] F16 (fun p hp => N16 p ?mem7) hcd (fun p hp => ?_) ⟨_, _, xs ++ [Txt.slice lv none (some (k.fmod 5)) ++ Txt.join (Str.ofString "") ys], rfl, strsAre_snoc hts, ?_, ?_, by with_unfolding_all rfl⟩
      case mem7 =>
        rcases List.mem_cons.mp hp with rfl | hp
        · exact .head _
        rcases List.mem_cons.mp hp with rfl | hp
        · exact .tail _ (.tail _ (.head _))
        rcases List.mem_cons.mp hp with rfl | hp
        · exact .tail _ (.head _)
        · exact .tail _ (.tail _ (.tail _ hp))
      · rcases List.mem_cons.mp hp with rfl | hp
        · exact off9 (Tx, lobj (List.toArray ts) n) (.head _)
        · exact off9 p (.tail _ hp)
      · rw [List.length_append, hxl]; rfl
      · intro x hx
        rcases List.mem_append.mp hx with hx | hx
        · exact Nat.le_trans (hxm x hx) (Nat.mul_le_mul_left 12 (Nat.le_succ i))
        · rw [List.mem_singleton.mp hx]
          exact cat_len (Nat.le_trans l11 hlv) hjn
  case done =>
    rintro h20 tk20 m₁ nw oc v₂ htk20 ⟨ts, n, xs, rfl, hts, hxl, hxm, mT⟩ F20 N20 hcd off20
    rw [List.size_toArray, hIn.length] at hxl
    have F21 := fr_known F20 (a := Str.ofString "texts") (u := .ref Tx) mT
    clear F20 F7 N9
    change Fr s1.heap s1.heap.objs.size h20 _ at F21
    change News s1.heap s1.heap.objs.size h20 _ at N20
    (try dsimp only)
    (iterate 1 (first | walk1 | (dsimp only; walk1)))
    k_dflt (refine LCg.Assign_ListComp_U (F₀ := F21) (by rfl) (by with_unfolding_all rfl) (by with_unfolding_all rfl) (by decide) (by rfl) (by decide) (by rfl) (by rfl) (by rfl) ?_)
    (iterate 7 (first | walk1 | (dsimp only; walk1)))
    have htl : ts.length = ns.length + 1 := by rw [strsAre_length hts, hxl]
    k_dflt (refine kmk_slice F21 N20 ⟨_, (N20 (Tx, lobj (List.toArray ts) n) (.tail _ (.head _))).1, rfl, _, rfl⟩ (.int _ _) .none (fun Sx h22 F22 N22 l22 => ?_) (by with_unfolding_all rfl) (by intro _; with_unfolding_all rfl) ?sz11)
    case sz11 => exact Nat.le_trans (by rw [List.size_toArray, htl]; omega : (List.toArray ts).size ≤ 5) (by decide)
    rw [show (some (1 : Int)) = some ((1 : Nat) : Int) from rfl, slicePick_from'] at N22
    have N23 : News s1.heap s1.heap.objs.size h22 ((Sx, lobj (List.toArray (ts.drop 1)) 0) :: (s1.heap.objs.size + 1 + 1 + 1, oc) :: [(Tx, lobj (List.toArray ts) n), (Sg, lobj (List.toArray svs) 0), (Dd, lobj (List.toArray ds) 0), (s1.heap.objs.size + 1 + 1, og), (s1.heap.objs.size + 1, od)]) := N22
    clear N22
    have hsx : StrsAre (ts.drop 1) (xs.drop 1) := strsAre_drop' hts 1
    refine LCg.CompSrc.ledger (k := 0) rfl F22 N23 (.head _) ?sz12 fun g12 => ?_
    case sz12 => exact Nat.le_trans (by rw [List.size_toArray, List.length_drop, htl]; omega : (List.toArray (ts.drop 1)).size ≤ 4) (by decide)
    refine comp_rest (fun j zs nw2 => nw2 = (Sx, lobj (List.toArray (ts.drop 1)) 0) :: (s1.heap.objs.size + 1 + 1 + 1, oc) :: [(Tx, lobj (List.toArray ts) n), (Sg, lobj (List.toArray svs) 0), (Dd, lobj (List.toArray ds) 0), (s1.heap.objs.size + 1 + 1, og), (s1.heap.objs.size + 1, od)] ∧ ∃ ys, StrsAre zs ys ∧ (∀ y ∈ ys, y.length ≤ 50) ∧ ys.length = j) ⟨rfl, [], .nil, (fun y hy => by cases hy), rfl⟩ ?fin4 ?turn4
    case turn4 =>
      rintro j zs nw2 v I2 oI2 C2 oC2 D2 m₂ h23 tk23 E' hj ⟨rfl, ys, hzs, hy2, hyl⟩ hvj hC hx Fc Nc offc nec
      obtain ⟨pv, tp, rfl, hpv⟩ := strsAre_at hsx (by simpa using hvj)
      have hpl : pv.length ≤ 12 * 4 := Nat.le_trans (hxm pv (List.mem_of_mem_drop (List.mem_of_getElem? hpv))) (Nat.mul_le_mul_left 12 (by rw [List.size_toArray, hIn.length]; exact hn4))
      (iterate 10 (first | walk1 | (dsimp only; walk1)))
      (try dsimp only)
      walk1
      (iterate 2 (first | walk1 | (dsimp only; walk1)))
      (try dsimp only)
      have hf0 : 0 ≤ ns.sum.fmod 2 := Int.fmod_nonneg_of_pos _ (by decide)
      have hf1 : ns.sum.fmod 2 < 2 := Int.fmod_lt_of_pos _ (by decide)
      have hf : ns.sum.fmod 2 = 0 ∨ ns.sum.fmod 2 = 1 := by omega
      rcases hf with hf | hf
      · rw [hf]
        (iterate 2 (first | walk1 | (dsimp only; walk1)))
        rename (Fr _ _ _ _) => Fd
        rename (News _ _ _ _) => Nd
        refine PyProof.Rows.add_str (fun t' tk => ?_) ?sz20
        case sz20 => exact Nat.le_trans (Nat.add_le_add (by decide : (Txt.mul (Str.ofString "/") 0).length ≤ 1) hpl) (by decide)
        refine ⟨_, _, _, rfl, Fd, Nd, offc, .inr ⟨_, .head _, rfl, _, rfl⟩, rfl, ys ++ [Txt.mul (Str.ofString "/") 0 ++ pv], strsAre_snoc hzs, ?_, ?_⟩
        · intro y hy
          rcases List.mem_append.mp hy with hy | hy
          · exact hy2 y hy
          · rw [List.mem_singleton.mp hy]
            exact Nat.le_trans (cat_le (by decide : (Txt.mul (Str.ofString "/") 0).length ≤ 1) hpl) (by decide)
        · rw [List.length_append, hyl]; rfl
      · rw [hf]
        (iterate 2 (first | walk1 | (dsimp only; walk1)))
        rename (Fr _ _ _ _) => Fd
        rename (News _ _ _ _) => Nd
        refine PyProof.Rows.add_str (fun t' tk => ?_) ?sz21
        case sz21 => exact Nat.le_trans (Nat.add_le_add (by decide : (Txt.mul (Str.ofString "/") 1).length ≤ 1) hpl) (by decide)
        refine ⟨_, _, _, rfl, Fd, Nd, offc, .inr ⟨_, .head _, rfl, _, rfl⟩, rfl, ys ++ [Txt.mul (Str.ofString "/") 1 ++ pv], strsAre_snoc hzs, ?_, ?_⟩
        · intro y hy
          rcases List.mem_append.mp hy with hy | hy
          · exact hy2 y hy
          · rw [List.mem_singleton.mp hy]
            exact Nat.le_trans (cat_le (by decide : (Txt.mul (Str.ofString "/") 1).length ≤ 1) hpl) (by decide)
        · rw [List.length_append, hyl]; rfl
    case fin4 =>
      rintro zs nw2 ⟨rfl, ys, hzs, hy2, hyl⟩ D5 h5' tk5 F5 N5 off5
      (try dsimp only)
      refine wpAny_execs_cons ?_
      k_dflt (refine For_rangeG s1.heap (by rfl) (by rfl) ?_ ?hs5 ?hE5)
      case hs5 => intro _; with_unfolding_all rfl
      case hE5 => passes_own
      have hzl : zs.length = ys.length := strsAre_length hzs
      have hzs' := hzs
      rw [List.size_toArray, List.length_drop, htl, Nat.add_sub_cancel] at hyl
      have hyl50 : ∀ y ∈ ys, y.length ≤ 50 := hy2
      (iterate 11 (first | walk1 | (dsimp only; walk1)))
      refine Calls.call_len_list (items := (List.toArray zs)) ⟨_, (N5 _ (.head _)).1, rfl, _, rfl⟩ (by rw [List.size_toArray]; omega) ?_
      (iterate 4 (first | walk1 | (dsimp only; walk1)))
      rename (Fr _ _ _ _) => F6
      rename (News _ _ _ _) => N6
      rename (IsRange _ _ _ _ _ _ _ _) => hR2
      have N7 : News s1.heap s1.heap.objs.size _ [(D5, LCg.lst zs)] := fun p hp => N6 p (by rw [List.mem_singleton.mp hp]; exact .head _)
      rw [show zs.length = ns.length from by rw [hzl, hyl]] at hR2
      refine ⟨_, _, _, _, _, _, ns.length + 1, [(D5, LCg.lst zs)], _, fun i m₁ nw => nw = [(D5, LCg.lst zs)] ∧ m₁ (Str.ofString "paths") = some (.ref D5), rfl, rfl, hR2, ?small, ?size, F6, N7, ⟨rfl, by with_unfolding_all rfl⟩, ?turn5, ?done5⟩
      case small =>
        have h234 : ns.length = 2 ∨ ns.length = 3 ∨ ns.length = 4 := by omega
        rcases h234 with h | h | h <;> rw [h] <;> decide
      case size =>
        unfold Builtin.Range.rangeSize
        rw [if_pos (by decide), if_pos (by omega)]
        simp
      case turn5 =>
        rintro i tsz m₁ nw I oI h31 tk31 htk31 hin ⟨rfl, mPa⟩ F31 N31 off31
        rename (Frag.In _ _) => KX
        have F32 := fr_known F31 (a := Str.ofString "paths") (u := .ref D5) (by rw [if_neg (by decide)]; exact mPa)
        clear F31 N7 N6 F6
        change Fr s1.heap s1.heap.objs.size h31 _ at F32
        change News s1.heap s1.heap.objs.size h31 _ at N31
        (try dsimp only)
        (iterate 9 (first | walk1 | (dsimp only; walk1)))
        have hzs : (List.toArray zs).size ≤ 4 := by rw [List.size_toArray, hzl, hyl]; exact hn4
        k_dflt (refine kmk_slice F32 N31 ⟨_, (N31 (D5, LCg.lst zs) (.tail _ (.head _))).1, rfl, _, rfl⟩ .none (.int _ _) (fun Rw h33 F33 N33 l33 => ?_) (by with_unfolding_all rfl) (by intro _; with_unfolding_all rfl) ?sz33)
        case sz33 => exact Nat.le_trans hzs (by decide)
        rw [Int.zero_add, slicePick_upto'] at N33
        have N34 : News s1.heap s1.heap.objs.size h33 [(Rw, lobj (List.toArray (zs.take i)) 0), (I, oI), (D5, LCg.lst zs)] := N33
        clear N33
        have hrow : StrsAre (zs.take i) (ys.take i) := strsAre_take hzs' i
        (iterate 7 (first | walk1 | (dsimp only; walk1)))
        rename (Fr _ _ _ _) => F35
        rename (News _ _ _ _) => N35
        k_dflt (refine LCg.ListComp_U (F₀ := F35) (by with_unfolding_all rfl) (by decide) (by rfl) (by decide) (by rfl) ?_)
        (iterate 1 (first | walk1 | (dsimp only; walk1)))
        refine LCg.CompSrc.ledger (k := 0) rfl F35 N35 (.head _) ?sz35 fun g35 => ?_
        case sz35 => exact Nat.le_trans (by rw [List.size_toArray, List.length_take, hzl, hyl]; omega : (List.toArray (zs.take i)).size ≤ 4) (by decide)
        refine comp_rest (fun j ws nw2 => nw2 = [(Rw, lobj (List.toArray (zs.take i)) 0), (I, oI), (D5, LCg.lst zs)] ∧ StrsAre ws (((ys.take i).take j).map (fun x => mkS (fix (lst x))))) ⟨rfl, .nil⟩ ?fin6 ?turn6
        case turn6 =>
          rintro j ws nw2 v I2 oI2 C2 oC2 D2 m₂ h36 tk36 E' hj ⟨rfl, hws⟩ hvj hC hx Fc Nc offc nec
          obtain ⟨pv, tp, rfl, hpv⟩ := strsAre_at hrow (by simpa using hvj)
          (iterate 7 (first | walk1 | (dsimp only; walk1)))
          refine ⟨KX.keeps Fc.keep, ?_⟩
          refine' fix_eols _ _ _ _ _ pv tp _ _ _ _ _ _ _ _ _ _ _ _ _ _ _ _ _ B0 ?kF7 KX ?kN7 T0 ?hk7 ?pre7 ?d7 ?u7 ?R7
          case kF7 => exact Fc
          case kN7 => exact Nc
          case hk7 => exact rfl
          case pre7 => exact Nat.le_trans (hyl50 pv (List.mem_of_mem_take (List.mem_of_getElem? hpv))) (by decide)
          case d7 => ktr_room
          case u7 => ktr_units
          intro t8 h8 tk8 F8 N8
          refine ⟨_, _, _, rfl, F8, N8, offc, .inr ⟨_, .head _, rfl, _, rfl⟩, rfl, ?_⟩
          rw [take_succ_at hpv, List.map_append]
          exact strsAre_snoc hws
        case fin6 =>
          rintro ws nw2 ⟨rfl, hws⟩ Da h41 tk41 F41 N41 off41
          rw [List.size_toArray, strsAre_length hrow, List.take_length] at hws
          (try dsimp only)
          (iterate 1 (first | walk1 | (dsimp only; walk1)))
          have hE50 : ∀ x ∈ (ys.take i).map fixS, x.length ≤ 100 := by
            intro x hx
            obtain ⟨y, hy, rfl⟩ := List.mem_map.mp hx
            exact fixS_len (hyl50 y (List.mem_of_mem_take hy))
          have hEl : ((ys.take i).map fixS).length ≤ 100 := by rw [List.length_map, List.length_take, hyl]; omega
          have hrl : (ys.take i).length ≤ 100 := by rw [List.length_take, hyl]; omega
          have hr50 : ∀ x ∈ ys.take i, x.length ≤ 50 := fun x hx => hyl50 x (List.mem_of_mem_take hx)
          refine ⟨KX.keeps F41.keep, ?_⟩
          refine' asked _ _ _ _ [(Da, LCg.lst ws), (Rw, lobj (List.toArray (zs.take i)) 0), (I, oI), (D5, LCg.lst zs)] Da ws ((ys.take i).map fixS) _ hws (.head _) hEl (fun x hx => Nat.le_trans (hE50 x hx) (by decide)) _ _ _ _ _ _ _ _ _ _ _ _ _ _ _ _ B0 ?kF41 KX ?kN41 T0 KX T0 ?hk41 ?d41 ?u41 ?R41
          case kF41 => exact F41
          case kN41 => exact N41
          case hk41 => exact rfl
          case d41 => ktr_room
          case u41 => ktr_units
          intro T1 o1' h42 tk42 F42 N42 hT1
          (try dsimp only)
          (iterate 8 (first | walk1 | (dsimp only; walk1)))
          rename (Fr _ _ _ _) => F45
          rename (News _ _ _ _) => N45
          have N46 : News s1.heap s1.heap.objs.size _ [(Rw, lobj (List.toArray (zs.take i)) 0), (T1, o1'), (I, oI), (D5, LCg.lst zs)] := fun p hp => N45 p (by
            rcases List.mem_cons.mp hp with rfl | hp
            · exact .tail _ (.tail _ (.head _))
            rcases List.mem_cons.mp hp with rfl | hp
            · exact .head _
            · exact .tail _ (.tail _ (.tail _ hp)))
          k_dflt (refine LCg.ListComp_U (F₀ := F45) (by with_unfolding_all rfl) (by decide) (by rfl) (by decide) (by rfl) ?_)
          (iterate 1 (first | walk1 | (dsimp only; walk1)))
          refine LCg.CompSrc.ledger (k := 0) rfl F45 N46 (.head _) ?sz45 fun g45 => ?_
          case sz45 => exact Nat.le_trans (by rw [List.size_toArray, List.length_take, hzl, hyl]; omega : (List.toArray (zs.take i)).size ≤ 4) (by decide)
          refine comp_rest (fun j us nw2 => nw2 = [(Rw, lobj (List.toArray (zs.take i)) 0), (T1, o1'), (I, oI), (D5, LCg.lst zs)] ∧ StrsAre us (((ys.take i).take j).map quoS)) ⟨rfl, .nil⟩ ?fin7 ?turn7
          case turn7 =>
            clear N45 N46 F45 F41 N41
            rintro j us nw2 v I2 oI2 C2 oC2 D2 m₂ h46 tk46 E' hj ⟨rfl, hus⟩ hvj hC hx Fc Nc offc nec
            obtain ⟨pv, tp, rfl, hpv⟩ := strsAre_at hrow (by simpa using hvj)
            (iterate 7 (first | walk1 | (dsimp only; walk1)))
            refine ⟨KX.keeps Fc.keep, ?_⟩
            refine' quotedata _ _ _ _ _ pv tp _ _ _ _ _ _ _ _ _ _ _ _ _ _ _ _ _ B0 ?kF8 KX ?kN8 T0 ?hk8 ?pre8 ?d8 ?u8 ?R8
            case kF8 => exact Fc
            case kN8 => exact Nc
            case hk8 => exact rfl
            case pre8 => exact Nat.le_trans (hyl50 pv (List.mem_of_mem_take (List.mem_of_getElem? hpv))) (by decide)
            case d8 => ktr_room
            case u8 => ktr_units
            intro t8 h8 tk8 F8 N8
            refine ⟨_, _, _, rfl, F8, N8, offc, .inr ⟨_, .head _, rfl, _, rfl⟩, rfl, ?_⟩
            rw [take_succ_at hpv, List.map_append]
            exact strsAre_snoc hus
          case fin7 =>
            clear N45 N46 F45 F41 N41
            rintro us nw2 ⟨rfl, hus⟩ Db h51 tk51 F51 N51 off51
            rw [List.size_toArray, strsAre_length hrow, List.take_length] at hus
            (try dsimp only)
            (iterate 1 (first | walk1 | (dsimp only; walk1)))
            have hU50 : ∀ x ∈ (ys.take i).map quoS, x.length ≤ 200 := by
              intro x hx
              obtain ⟨y, hy, rfl⟩ := List.mem_map.mp hx
              exact quoS_len (hyl50 y (List.mem_of_mem_take hy))
            have hUl : ((ys.take i).map quoS).length ≤ 100 := by rw [List.length_map]; exact hrl
            refine ⟨KX.keeps F51.keep, ?_⟩
            refine' asked _ _ _ _ [(Db, LCg.lst us), (Rw, lobj (List.toArray (zs.take i)) 0), (T1, o1'), (I, oI), (D5, LCg.lst zs)] Db us ((ys.take i).map quoS) _ hus (.head _) hUl (fun x hx => Nat.le_trans (hU50 x hx) (by decide)) _ _ _ _ _ _ _ _ _ _ _ _ _ _ _ _ B0 ?kF51 KX ?kN51 T0 KX T0 ?hk51 ?d51 ?u51 ?R51
            case kF51 => exact F51
            case kN51 => exact N51
            case hk51 => exact rfl
            case d51 => ktr_room
            case u51 => ktr_units
            intro T2 o2' h52 tk52 F52 N52 hT2
            (try dsimp only)
            have N53 : News s1.heap s1.heap.objs.size h52 [(T2, o2'), (Rw, lobj (List.toArray (zs.take i)) 0), (T1, o1'), (I, oI), (D5, LCg.lst zs)] := fun p hp => N52 p (by
              rcases List.mem_cons.mp hp with rfl | hp
              · exact .head _
              · exact .tail _ (.tail _ hp))
            clear N51 F51 N52
            (iterate 15 (first | walk1 | (dsimp only; walk1)))
            rename (Fr _ _ _ _) => F55
            rename (News _ _ _ _) => N55
            refine ⟨KX.keeps F55.keep, ?_⟩
            refine' due _ _ _ _ [(T2, o2'), (Rw, lobj (List.toArray (zs.take i)) 0), (T1, o1'), (I, oI), (D5, LCg.lst zs)] Rw (zs.take i) (ys.take i) 0 (Str.ofString "") _ hrow (.tail _ (.head _)) hrl (fun x hx => Nat.le_trans (hr50 x hx) (by decide)) (by decide) _ _ _ _ _ _ _ _ _ _ _ _ _ _ _ _ _ B0 ?kF55 KX ?kN55 T0 ?hk55 ?d55 ?u55 ?R55
            case kF55 => exact F55
            case kN55 => exact N55
            case hk55 => exact rfl
            case d55 => ktr_room
            case u55 => ktr_units
            intro T3 o3' h56 tk56 F56 N56 hT3
            (try dsimp only)
            clear F55 N55
            obtain ⟨ta1, ta2, eT1⟩ := hT1
            obtain ⟨tb1, tb2, eT2⟩ := hT2
            obtain ⟨tc1, tc2, eT3⟩ := hT3
            refine ne_tupsT (by rw [← eT1]; exact (N56 (T1, o1') (.tail _ (.tail _ (.tail _ (.head _))))).1) (by rw [← eT3]; exact (N56 (T3, o3') (.head _)).1) (.cons _ ta1 (.cons _ ta2 .nil)) (.cons _ tc1 (.cons _ tc2 .nil)) rfl (by ktr_units) ?_
            rw [law_A]
            rw [decide_eq_true rfl]
            (iterate 13 (first | walk1 | (dsimp only; walk1)))
            rename (Fr _ _ _ _) => F57
            rename (News _ _ _ _) => N57
            refine ⟨KX.keeps F57.keep, ?_⟩
            refine' due _ _ _ _ [(Rw, lobj (List.toArray (zs.take i)) 0), (T2, o2'), (T1, o1'), (I, oI), (D5, LCg.lst zs)] Rw (zs.take i) (ys.take i) 0 (Str.ofString ".") _ hrow (.head _) hrl (fun x hx => Nat.le_trans (hr50 x hx) (by decide)) (by decide) _ _ _ _ _ _ _ _ _ _ _ _ _ _ _ _ _ B0 ?kF57 KX (fun p hp => N57 p ?kN57) T0 ?hk57 ?d57 ?u57 ?R57
            case kF57 => exact F57
            case kN57 =>
              rcases List.mem_cons.mp hp with rfl | hp
              · exact .tail _ (.tail _ (.head _))
              rcases List.mem_cons.mp hp with rfl | hp
              · exact .tail _ (.head _)
              · exact .tail _ (.tail _ (.tail _ hp))
            case hk57 => exact rfl
            case d57 => ktr_room
            case u57 => ktr_units
            intro T4 o4' h58 tk58 F58 N58 hT4
            (try dsimp only)
            clear F57 N57
            obtain ⟨td1, td2, eT4⟩ := hT4
            refine ne_tupsT (by rw [← eT2]; exact (N58 (T2, o2') (.tail _ (.tail _ (.head _)))).1) (by rw [← eT4]; exact (N58 (T4, o4') (.head _)).1) (.cons _ tb1 (.cons _ tb2 .nil)) (.cons _ td1 (.cons _ td2 .nil)) rfl (by ktr_units) ?_
            rw [law_B]
            rw [decide_eq_true rfl]
            have N59 : News s1.heap s1.heap.objs.size h58 [(Rw, lobj (List.toArray (zs.take i)) 0), (T2, o2'), (T1, o1'), (I, oI), (D5, LCg.lst zs)] := fun p hp => N58 p (.tail _ hp)
            clear N58
            (iterate 6 (first | walk1 | (dsimp only; walk1)))
            k_dflt (refine LCt.Assign_ListComp_T (F₀ := F58) (by rfl) (by with_unfolding_all rfl) (by with_unfolding_all rfl) (by decide) (by rfl) (by decide) (by rfl) (by rfl) (by rfl) ?_)
            (iterate 1 (first | walk1 | (dsimp only; walk1)))
            refine LCt.CompSrcT.ledger (k := 0) rfl F58 N59 (.head _) ?sz58 fun g58 => ?_
            case sz58 => exact Nat.le_trans (by rw [List.size_toArray, List.length_take, hzl, hyl]; omega : (List.toArray (zs.take i)).size ≤ 4) (by decide)
            refine comp_restT (fun j ds nw3 => nw3 = [(Rw, lobj (List.toArray (zs.take i)) 0), (T2, o2'), (T1, o1'), (I, oI), (D5, LCg.lst zs)] ∧ StrsAre ds (((ys.take i).take j).filter isDot)) ⟨rfl, .nil⟩ ?fin9 ?turn9
            case turn9 =>
              rintro j ds nw3 v I2 oI2 C2 oC2 D2 m₂ h59 tk59 E' hj ⟨rfl, hds⟩ hvj hC hx Fc Nc offc nec
              obtain ⟨pv, tp, rfl, hpv⟩ := strsAre_at hrow (by simpa using hvj)
              have hpl : pv.length ≤ 50 := hr50 pv (List.mem_of_getElem? hpv)
              (iterate 10 (first | walk1 | (dsimp only; walk1)))
              refine wpAny_with_toks (n := 1) (Nat.le_add_left 1 _) (splitN1 Fc Nc (by decide) ?_ (by have : pv.length + 2 ≤ 52 := by omega
                                                                                                      exact Nat.le_trans this (by decide)))
              intro sl h60 k60 el F60 N60 hk60
              have hsl : StrsAre (strValues sl) (Txt.split pv (Str.ofString "/")) := by rw [← el]; exact strsAre_of sl
              generalize strValues sl = svs at hsl N60
              (try dsimp only at N60)
              (try dsimp only)
              obtain ⟨p0, pr, hp0⟩ := List.exists_cons_of_ne_nil (split_ne pv (Str.ofString "/"))
              have hdot : isDot pv = decide (p0 = Str.ofString ".") := by unfold isDot; rw [hp0]; rfl
              rw [hp0] at hsl
              cases hsl with
              | cons _ tp0 hsl' =>
              clear Nc Fc
              (iterate 3 (first | walk1 | (dsimp only; walk1)))
              (iterate 1 (first | walk1 | (dsimp only; walk1)))
              have hdb : (p0 == Str.ofString ".") = isDot pv := by
                rw [hdot, Bool.eq_iff_iff, beq_iff_eq, decide_eq_true_eq]
              rw [hdb]
              refine wpAny_truthy_bool ?_
              show ite _ _ _
              have hsrc : LCg.SrcAt s1.heap Rw (List.toArray (zs.take i)) [(Rw, lobj (List.toArray (zs.take i)) 0), (T2, o2'), (T1, o1'), (I, oI), (D5, LCg.lst zs)] := .inr ⟨_, .head _, rfl, _, rfl⟩
              cases he : isDot pv
              · rw [if_neg (by decide)]
                refine ⟨_, _, _, rfl, F60, fun p hp => N60 p (.tail _ hp), offc, hsrc, rfl, ?_⟩
                rw [take_succ_at hpv, List.filter_append]
                simpa [List.filter, he] using hds
              · rw [if_pos rfl]
                (iterate 1 (first | walk1 | (dsimp only; walk1)))
                refine ⟨_, _, _, rfl, F60, fun p hp => N60 p (.tail _ hp), offc, hsrc, rfl, ?_⟩
                rw [take_succ_at hpv, List.filter_append]
                simp only [List.filter, he]
                exact strsAre_snoc hds
            case fin9 =>
              clear F58 N59
              rintro ds nw3 ⟨rfl, hds⟩ Dd h62 tk62 F62 N62 off62
              rw [List.size_toArray, strsAre_length hrow, List.take_length] at hds
              (try dsimp only)
              (iterate 2 (first | walk1 | (dsimp only; walk1)))
              refine cut_val F62 N62 (fun v => v = .bool (decide ((ys.take i).filter isDot = []) || (!decide ((ys.take i).filter isDot = ys.take i) && decide ((askedS ((ys.take i).map fixS)).2 = Str.ofString "")))) ?_ ?_
              · (iterate 6 (first | walk1 | (dsimp only; walk1)))
                rename_i Z hpz F63 N63 lZ
                refine eq_listsT (us := []) (ys := []) (N63 (Dd, LCg.lst ds) (.tail _ (.head _))).1 (N63 _ (.head _)).1 hds .nil (by ktr_units) ?_
                (try dsimp only)
                refine wpAny_truthy_bool ?_
                cases hb : decide ((ys.take i).filter isDot = [])
                · rw [if_neg (by decide)]
                  subst eT1
                  (iterate 5 (first | walk1 | (dsimp only; walk1)))
                  refine ne_listsT (N63 (Dd, LCg.lst ds) (.tail _ (.head _))).1 (N63 (Rw, lobj (List.toArray (zs.take i)) 0) (.tail _ (.tail _ (.head _)))).1 hds hrow (by ktr_units) ?_
                  (try dsimp only)
                  refine wpAny_truthy_bool ?_
                  cases hb2 : !decide ((ys.take i).filter isDot = ys.take i)
                  · rw [if_neg (by decide)]
                    exact ⟨_, _, rfl, rfl, F63, fun p hp => N63 p (.tail _ hp)⟩
                  · rw [if_pos rfl]
                    (iterate 8 (first | walk1 | (dsimp only; walk1)))
                    have hbe : ((askedS ((ys.take i).map fixS)).2 == Str.ofString "") = decide ((askedS ((ys.take i).map fixS)).2 = Str.ofString "") := by rw [Bool.eq_iff_iff, beq_iff_eq, decide_eq_true_eq]
                    refine ⟨_, _, ?_, rfl, F63, fun p hp => N63 p (.tail _ hp)⟩
                    rw [hbe]
                    rfl
                · rw [if_pos rfl]
                  exact ⟨_, _, rfl, rfl, F63, fun p hp => N63 p (.tail _ hp)⟩
              · rintro v h64 tk64 rfl F64 N64
                subst eT1
                subst eT2
                generalize hdu : (decide ((ys.take i).filter isDot = []) || (!decide ((ys.take i).filter isDot = ys.take i) && decide ((askedS ((ys.take i).map fixS)).2 = Str.ofString ""))) = du
                (iterate 9 (first | walk1 | (dsimp only; walk1)))
                (iterate 2 (first | walk1 | (dsimp only; walk1)))
                refine wpAny_truthy_bool ?_
                (try show ite _ _ _)
                cases hto : ((askedS ((ys.take i).map fixS)).1 == Str.ofString "told")
                · rw [if_neg (by decide)]
                  (iterate 4 (first | walk1 | (dsimp only; walk1)))
                  rename (Fr _ _ _ _) => F65
                  rename (News _ _ _ _) => N65
                  refine TurnG.end_ [(D5, LCg.lst zs)] F65 (fun p hp => N65 p (.tail _ (.tail _ (.tail _ (.tail _ hp))))) off31 ?_
                  exact ⟨rfl, by with_unfolding_all rfl⟩
                · rw [if_pos rfl]
                  (iterate 12 (first | walk1 | (dsimp only; walk1)))
                  rename (Fr _ _ _ _) => F65
                  rename (News _ _ _ _) => N65
                  refine ⟨KX.keeps F65.keep, ?_⟩
                  refine' quotedata _ _ _ _ _ (askedS ((ys.take i).map fixS)).2 ta2 _ _ _ _ _ _ _ _ _ _ _ _ _ _ _ _ _ B0 ?kF66 KX ?kN66 T0 ?hk66 ?pre66 ?d66 ?u66 ?R66
                  case kF66 => exact F65
                  case kN66 => exact N65
                  case hk66 => exact rfl
                  case pre66 => exact law_len _ hr50
                  case d66 => ktr_room
                  case u66 => ktr_units
                  intro t66 h66 tk66 F66 N66
                  clear F65 N65
                  (try dsimp only)
                  (iterate 7 (first | walk1 | (dsimp only; walk1)))
                  have hC := law_C (ys.take i) (beq_iff_eq.mp hto)
                  rw [hdu] at hC
                  have hCb : (mkS (stuff true (fix (lst (askedS ((ys.take i).map fixS)).2))) == (askedS ((ys.take i).map quoS)).2) = du := by
                    rw [← hC, Bool.eq_iff_iff, beq_iff_eq, decide_eq_true_eq]
                    exact Iff.rfl
                  rw [hCb, show (du != du) = false from by cases du <;> rfl]
                  refine wpAny_truthy_bool ?_
                  rw [if_neg (by decide)]
                  (iterate 4 (first | walk1 | (dsimp only; walk1)))
                  rename (Fr _ _ _ _) => F67
                  rename (News _ _ _ _) => N67
                  refine TurnG.end_ [(D5, LCg.lst zs)] F67 (fun p hp => N67 p (.tail _ (.tail _ (.tail _ (.tail _ hp))))) off31 ?_
                  exact ⟨rfl, by with_unfolding_all rfl⟩
      case done5 =>
        rintro h40 tk40 m₁ nw htk40 ⟨rfl, mPa⟩ F40 N40
        (try dsimp only)
        (iterate 3 (first | walk1 | (dsimp only; walk1)))
        (k_steps)
end Mine
end

theorem PySem.Challenge.cw_pd0126_01_holds : PySem.Challenge.rw_pd0126_01.Holds :=
  Mine.lawHolds
