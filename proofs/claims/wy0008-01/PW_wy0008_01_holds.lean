import PyProof.Rows.All
import Wide.All
import OpenK.AllK
import Wide.FinOn
import PySem.Challenge.RW_wy0008_01
open PySem PySem.W PyProof.Rows
set_option Elab.async false
set_option maxRecDepth 100000
set_option maxHeartbeats 8000000
namespace Mine
open_top hd for PySem.Challenge.rw_wy0008_01
end Mine
namespace Mine
theorem plainAttrs_rePattern : PlainAttrs "re.Pattern" :=
  ⟨⟨"object.__getattribute__", by rw [typeLookup_type, builtinLookup_eq_fast]; kernel_rfl, by decide +kernel⟩, by rw [typeLookup_type, builtinLookup_eq_fast]; kernel_rfl⟩
theorem slot_search : Slot "re.Pattern" "search" "re.Pattern.search" :=
  .of (owner := "re.Pattern") (n := "search") (by rw [typeLookup_type, builtinLookup_eq_fast]; kernel_rfl) (by decide +kernel) (by decide +kernel) (by decide +kernel)
    (by first | exact .inl (by decide +kernel) | exact .inr (by decide +kernel)) (by rw [isSubtype_type]; kernel_rfl)
theorem type_search : typeOf (.builtin "re.Pattern.search") = pure (.type "method_descriptor") := by show builtinType _ = _; rw [builtinType_eq_fast]; kernel_rfl
theorem entry_search : entryFor table "re.Pattern.search" = some Builtin.«re.Pattern.search» := entryFor_of_tree (by kernel_rfl)
theorem args_search (a b : Value) : argsOk "re.Pattern.search" ⟨[a, b], []⟩ := by unfold argsOk; kernel_rfl
end Mine
namespace Mine
open PySem.Sre (M accepts inSet run)

/-- the words of the compiled pattern -/
def ipCode : Array Nat := #[14, 8, 1, 2, 4294967295, 1, 1, 46, 0, 16, 46, 24, 9, 1, 4294967295, 13, 4, 8, 0, 0, 1, 6, 5, 1]

/-- a point and figures up to the end -/
def figsL : List Nat → Bool
  | [] => false
  | c :: r => (c == 46 && !r.isEmpty && r.all Sre.isDigit) || figsL r

/-- the machine's state, what counts of it named -/
def st (l : List Nat) (start pc pos handed : Nat) (om : Bool) (fr : List Sre.Frame) (wt : Nat) (ans : Option Bool) (seen : Sre.Seen) : M :=
  { code := ipCode, text := l.toArray, lim := l.length, start, lastStart := l.length, pc, pos, handed, outermost := om, marks := #[], frames := fr, weight := wt, answer := ans, seen }

theorem runFor_zero (m : M) : M.runFor 0 m = m := rfl
theorem step_done {m : M} (h : m.outcome.isSome = true) : m.step = m := by unfold M.step; rw [if_pos h]
theorem runFor_done {m : M} (h : m.outcome.isSome = true) : ∀ k, M.runFor k m = m
  | 0 => rfl
  | k + 1 => by unfold M.runFor; rw [if_pos h]
theorem runFor_succ (k : Nat) (m : M) : M.runFor (k + 1) m = M.runFor k m.step := by
  show (if m.outcome.isSome then m else M.runFor k m.step) = _
  split
  · rename_i h; rw [step_done h, runFor_done h]
  · rfl
theorem runFor_add (a b : Nat) (m : M) : M.runFor (a + b) m = M.runFor b (M.runFor a m) := by
  induction a generalizing m with
  | zero => rw [Nat.zero_add]; rfl
  | succ a ih => rw [Nat.add_right_comm, runFor_succ, ih, runFor_succ]

/-- m comes to m' in at most B steps -/
def Goes (m m' : M) (B : Nat) : Prop := ∃ k, k ≤ B ∧ M.runFor k m = m'
theorem Goes.refl (m : M) : Goes m m 0 := ⟨0, Nat.le_refl _, rfl⟩
theorem Goes.one {m m' : M} (h : m.step = m') : Goes m m' 1 := ⟨1, Nat.le_refl _, by rw [runFor_succ, h]; rfl⟩
theorem Goes.trans {m m' m'' : M} {B C : Nat} (h : Goes m m' B) (h' : Goes m' m'' C) : Goes m m'' (B + C) := by
  obtain ⟨a, ha, rfl⟩ := h
  obtain ⟨b, hb, rfl⟩ := h'
  exact ⟨a + b, by omega, runFor_add a b m⟩
theorem Goes.le {m m' : M} {B C : Nat} (h : Goes m m' B) (hb : B ≤ C) : Goes m m' C := let ⟨a, ha, e⟩ := h; ⟨a, by omega, e⟩
theorem Goes.cons {m m' m'' : M} {B : Nat} (h : m.step = m') (h' : Goes m' m'' B) : Goes m m'' (B + 1) := ((Goes.one h).trans h').le (by omega)

section
variable {l : List Nat} {start pos handed wt : Nat} {om : Bool} {fr : List Sre.Frame} {seen : Sre.Seen}

/-- the kept part of a frame of this pattern -/
def kpt : Sre.Kept := { lastmark := -1, lastindex := -1 }

theorem step_lit_end (h : l.length ≤ pos) : (st l start 9 pos handed om fr wt none seen).step = st l start 9 pos handed om fr wt (some false) (seen.add 16) := by
  show (if (pos ≥ l.length) then _ else _) = _
  rw [if_pos h]; rfl
theorem step_lit_no (h : pos < l.length) (hc : (l.toArray.getD pos 0 == 46) = false) : (st l start 9 pos handed om fr wt none seen).step = st l start 9 pos handed om fr wt (some false) (seen.add 16) := by
  show (if (pos ≥ l.length) then _ else match (Except.ok (l.toArray.getD pos 0 == 46, seen.add 16) : Except String (Bool × Sre.Seen)) with | .error why => _ | .ok (false, seen) => _ | .ok (true, seen) => _) = _
  rw [if_neg (by omega), hc]; rfl
theorem step_lit_yes (h : pos < l.length) (hc : (l.toArray.getD pos 0 == 46) = true) : (st l start 9 pos handed om fr wt none seen).step = st l start 11 (pos + 1) handed om fr wt none (seen.add 16) := by
  show (if (pos ≥ l.length) then _ else match (Except.ok (l.toArray.getD pos 0 == 46, seen.add 16) : Except String (Bool × Sre.Seen)) with | .error why => _ | .ok (false, seen) => _ | .ok (true, seen) => _) = _
  rw [if_neg (by omega), hc]; rfl

theorem accepts_fig (c : Nat) (seen : Sre.Seen) : ∃ seen', accepts ipCode 15 c seen = .ok (Sre.isDigit c, seen') := by
  show ∃ seen', inSet ipCode c 24 17 true seen = _
  cases h : Sre.isDigit c with
  | true =>
    refine ⟨((seen.add 8).add (55 + 0)), ?_⟩
    show (do if ← (Except.map (· != false) (Except.ok (Sre.isDigit c)) : Except String Bool) then pure (true, (seen.add 8).add (55 + 0)) else inSet ipCode c 23 19 true ((seen.add 8).add (55 + 0))) = _
    rw [h]; rfl
  | false =>
    refine ⟨(((seen.add 8).add (55 + 0)).add 0), ?_⟩
    show (do if ← (Except.map (· != false) (Except.ok (Sre.isDigit c)) : Except String Bool) then pure (true, (seen.add 8).add (55 + 0)) else inSet ipCode c 23 19 true ((seen.add 8).add (55 + 0))) = _
    rw [h]; rfl

/-- how many figures stand in front -/
def figCount (l : List Nat) : Nat := (l.takeWhile Sre.isDigit).length
theorem figCount_le (l : List Nat) : figCount l ≤ l.length := (List.takeWhile_prefix _).length_le
theorem toArray_getD (l : List Nat) (p d : Nat) : l.toArray.getD p d = l.getD p d := by
  simp [Array.getD_eq_getD_getElem?, List.getD_eq_getElem?_getD]
theorem getD_drop (l : List Nat) (p : Nat) : l.toArray.getD p 0 = (l.drop p).headD 0 := by
  rw [toArray_getD, List.getD_eq_getElem?_getD, List.headD_eq_head?_getD, List.head?_drop]
theorem run_fig (l : List Nat) : ∀ (n p f : Nat) (seen : Sre.Seen), n + p = l.length → ∃ seen', run ipCode l.toArray 15 n p f seen = .ok (f + figCount (l.drop p), seen')
  | 0, p, f, seen, h => ⟨seen, by
      have : l.drop p = [] := List.drop_eq_nil_of_le (by omega)
      rw [this]; rfl⟩
  | n + 1, p, f, seen, h => by
    obtain ⟨seen', hs⟩ := accepts_fig (l.toArray.getD p 0) seen
    have hd : l.drop p = l.toArray.getD p 0 :: l.drop (p + 1) := by
      rw [List.drop_eq_getElem_cons (by omega : p < l.length), toArray_getD, List.getD_eq_getElem?_getD, List.getElem?_eq_getElem (by omega : p < l.length)]; rfl
    cases hf : Sre.isDigit (l.toArray.getD p 0) with
    | true =>
      obtain ⟨seen'', h''⟩ := run_fig l n (p + 1) (f + 1) seen' (by omega)
      refine ⟨seen'', ?_⟩
      have e : run ipCode l.toArray 15 (n + 1) p f seen = run ipCode l.toArray 15 n (p + 1) (f + 1) seen' := by
        show (accepts ipCode 15 (l.toArray.getD p 0) seen).bind _ = _
        rw [hs, hf]; rfl
      rw [e, h'', hd]
      congr 2
      unfold figCount
      rw [List.takeWhile_cons, hf, if_pos rfl, List.length_cons]; omega
    | false =>
      refine ⟨seen', ?_⟩
      have e : run ipCode l.toArray 15 (n + 1) p f seen = .ok (f, seen') := by
        show (accepts ipCode 15 (l.toArray.getD p 0) seen).bind _ = _
        rw [hs, hf]; rfl
      rw [e, hd]
      congr 2
      unfold figCount
      rw [List.takeWhile_cons, hf, if_neg (by decide)]; rfl

/-- the frame that a run of figures leaves -/
def gb (pos : Nat) (om : Bool) (n : Int) : Sre.Frame := { wait := .giveBack, pc := 11, pos, outermost := om, count := n, kept := kpt }
def ns (pos : Nat) (om : Bool) : Sre.Frame := { wait := .nextStart, pc := 9, pos, outermost := om }

theorem step_rep_end (h : l.length ≤ pos) : (st l start 11 pos handed om fr wt none seen).step = st l start 11 pos handed om fr wt (some false) (seen.add 24) := by
  show (if ((1 : Nat) : Int) > (l.length : Int) - (pos : Int) then _ else _) = _
  rw [if_pos (by omega)]; rfl
theorem step_rep (h : pos < l.length) (hn : l.length ≤ 4294967295) (hw : wt ≤ 1000) : ∃ seen', (st l start 11 pos handed om fr wt none seen).step =
    if figCount (l.drop pos) < 1 then st l start 11 pos handed om fr wt (some false) seen'
    else st l start 21 (pos + figCount (l.drop pos)) (pos + figCount (l.drop pos)) om (gb (pos + figCount (l.drop pos)) om (figCount (l.drop pos)) :: fr) (wt + 1) none seen' := by
  obtain ⟨seen', hr⟩ := run_fig l (l.length - pos) pos 0 ((seen.add 24).add 13) (by omega)
  refine ⟨seen', ?_⟩
  show (if ((1 : Nat) : Int) > (l.length : Int) - (pos : Int) then _ else match run ipCode l.toArray 15 (min 4294967295 ((l.length : Int) - (pos : Int)).toNat) pos 0 ((seen.add 24).add 13) with
    | .error why => _ | .ok (n, seen) => _) = _
  have e1 : min 4294967295 ((l.length : Int) - (pos : Int)).toNat = l.length - pos := by omega
  rw [if_neg (by omega), e1, hr, Nat.zero_add]
  by_cases h1 : figCount (l.drop pos) < 1
  · rw [if_pos h1]
    show (if figCount (l.drop pos) < 1 then _ else _) = _
    rw [if_pos h1]; rfl
  · rw [if_neg h1]
    show (if figCount (l.drop pos) < 1 then _ else _) = _
    rw [if_neg h1]
    show (if wt + 1 + 0 > 16777216 then _ else _) = _
    rw [if_neg (by omega)]; rfl

theorem isAt_end (l : List Nat) (h10 : ∀ c ∈ l, c ≠ 10) (hp : pos ≤ l.length) : (pos == l.length || (pos + 1 == l.length && l.toArray.getD pos 0 == 10)) = (pos == l.length) := by
  cases h : (pos == l.length) with
  | true => rfl
  | false =>
    rw [Bool.false_or]
    have hlt : pos < l.length := by have := beq_eq_false_iff_ne.mp h; omega
    have : (l.toArray.getD pos 0 == 10) = false := by
      rw [toArray_getD, List.getD_eq_getElem?_getD, List.getElem?_eq_getElem hlt]
      exact beq_eq_false_iff_ne.mpr (h10 _ (List.getElem_mem hlt))
    rw [this, Bool.and_false]
def atRes (m : M) (k : Nat) (r : Except String Bool) : M := match r with
  | .error why => m.stick why
  | .ok yes => let m := { m with seen := m.seen.add (43 + k) }; if yes then { m with pc := m.pc + 2 } else m.say false
theorem step_at_yes (h10 : ∀ c ∈ l, c ≠ 10) (h : pos = l.length) : (st l start 21 pos handed om fr wt none seen).step = st l start 23 pos handed om fr wt none ((seen.add 6).add 48) := by
  show atRes (st l start 21 pos handed om fr wt none (seen.add 6)) 5 (.ok (pos == l.length || (pos + 1 == l.length && l.toArray.getD pos 0 == 10))) = _
  rw [isAt_end l h10 (by omega), beq_iff_eq.mpr h]; rfl
theorem step_at_no (h10 : ∀ c ∈ l, c ≠ 10) (h : pos < l.length) : (st l start 21 pos handed om fr wt none seen).step = st l start 21 pos handed om fr wt (some false) ((seen.add 6).add 48) := by
  show atRes (st l start 21 pos handed om fr wt none (seen.add 6)) 5 (.ok (pos == l.length || (pos + 1 == l.length && l.toArray.getD pos 0 == 10))) = _
  rw [isAt_end l h10 (by omega), beq_eq_false_iff_ne.mpr (by omega)]; rfl
theorem step_success : (st l start 23 pos handed om fr wt none seen).step = st l start 23 pos pos om fr wt (some true) (seen.add 1) := by
  show (if (om && ((false && pos != l.length) || (false && pos == start))) = true then _ else _) = _
  rw [if_neg (by simp)]; rfl
theorem step_gb_yes {pc p n} {om'} : (st l start pc p handed om (gb pos om' n :: fr) (wt + 1) (some true) seen).step = st l start 11 pos handed om' fr wt (some true) seen := rfl
theorem step_gb_no {pc p} {n : Int} {om'} (h : n - 1 < 1) : (st l start pc p handed om (gb pos om' n :: fr) (wt + 1) (some false) seen).step = st l start 11 pos handed om' fr wt (some false) seen := by
  show (if n - 1 < ((1 : Nat) : Int) then _ else _) = _
  rw [if_pos (show n - 1 < ((1 : Nat) : Int) from h)]; rfl
theorem step_gb_back {pc p} {n : Int} {om'} (h : ¬ n - 1 < 1) (hw : wt ≤ 1000) : (st l start pc p handed om (gb pos om' n :: fr) (wt + 1) (some false) seen).step = st l start 21 (pos - 1) (pos - 1) om' (gb (pos - 1) om' (n - 1) :: fr) (wt + 1) none seen := by
  show (if n - 1 < ((1 : Nat) : Int) then _ else _) = _
  rw [if_neg (show ¬ n - 1 < ((1 : Nat) : Int) from h)]
  show (if wt + 1 - 1 + 1 + 0 > 16777216 then _ else _) = _
  rw [if_neg (by omega)]; rfl
theorem step_ns_yes {pc p} {om'} : (st l start pc p handed om (ns pos om' :: fr) (wt + 1) (some true) seen).step = st l start 9 pos handed om' fr wt (some true) seen := rfl
theorem step_ns_end {pc p} {om'} (h : l.length ≤ pos) : (st l start pc p handed om (ns pos om' :: fr) (wt + 1) (some false) seen).step = st l start 9 pos handed om' fr wt (some false) seen := by
  show (if pos < l.length then _ else _) = _
  rw [if_neg (by omega)]; rfl
theorem step_ns_next {pc p} {om'} (h : pos < l.length) (hw : wt ≤ 1000) : (st l start pc p handed om (ns pos om' :: fr) (wt + 1) (some false) seen).step = st l (pos + 1) 9 (pos + 1) (pos + 1) false (ns (pos + 1) false :: fr) (wt + 1) none seen := by
  show (if pos < l.length then _ else _) = _
  rw [if_pos h]
  show (if wt + 1 - 1 + 1 + 0 > 16777216 then _ else _) = _
  rw [if_neg (by omega)]; rfl

theorem figCount_all : ∀ (r : List Nat), figCount r = r.length ↔ r.all Sre.isDigit = true
  | [] => by simp [figCount]
  | c :: r => by
    have ih := figCount_all r
    unfold figCount at ih ⊢
    rw [List.takeWhile_cons, List.all_cons]
    cases hf : Sre.isDigit c with
    | true => simp only [if_pos, List.length_cons, Bool.true_and]; rw [← ih]; omega
    | false => simp
theorem figCount_pos {r : List Nat} (hne : r ≠ []) (h : figCount r < 1) : r.all Sre.isDigit = false := by
  cases hr : r.all Sre.isDigit with
  | false => rfl
  | true => have := (figCount_all r).mpr hr; cases r with
    | nil => exact absurd rfl hne
    | cons _ _ => rw [List.length_cons] at this; omega

theorem gb_fails (h10 : ∀ c ∈ l, c ≠ 10) (hw : wt ≤ 1000) : ∀ (k pos pc p handed : Nat) (om om' : Bool) (seen : Sre.Seen), k ≤ pos → pos ≤ l.length →
    ∃ p' hd' seen', Goes (st l start pc p handed om (gb pos om' (k : Int) :: fr) (wt + 1) (some false) seen) (st l start 11 p' hd' om' fr wt (some false) seen') (2 * k + 1)
  | 0, pos, pc, p, handed, om, om', seen, _, _ => ⟨_, _, _, (Goes.one (step_gb_no (by omega))).le (by omega)⟩
  | 1, pos, pc, p, handed, om, om', seen, _, _ => ⟨_, _, _, (Goes.one (step_gb_no (by omega))).le (by omega)⟩
  | k + 2, pos, pc, p, handed, om, om', seen, h1, h2 => by
    obtain ⟨p', hd', seen', g⟩ := gb_fails h10 hw (k + 1) (pos - 1) 21 (pos - 1) (pos - 1) om' om' ((seen.add 6).add 48) (by omega) (by omega)
    refine ⟨p', hd', seen', (Goes.cons (step_gb_back (by omega) hw) (Goes.cons (step_at_no h10 (by omega)) ?_)).le (B := 2 * (k + 1) + 1 + 1 + 1) (by omega)⟩
    have e : ((k + 2 : Nat) : Int) - 1 = ((k + 1 : Nat) : Int) := by omega
    rw [e]; exact g

/-- an attempt at s begins -/
def at_ (l : List Nat) (s : Nat) (om : Bool) (seen : Sre.Seen) : M := st l s 9 s s om [ns s om] 1 none seen
theorem ends_no {pc p : Nat} : ∃ m', Goes (st l start pc p handed om [] 0 (some false) seen) m' 1 ∧ m'.outcome = some .failed := ⟨_, Goes.one rfl, rfl⟩
theorem ends_yes {pc p : Nat} : ∃ m', Goes (st l start pc p handed om [] 0 (some true) seen) m' 1 ∧ m'.outcome = some .matched := ⟨_, Goes.one rfl, rfl⟩
def saysO (b : Bool) : Sre.Outcome := if b then .matched else .failed

theorem search_goes (h10 : ∀ c ∈ l, c ≠ 10) (hn : l.length ≤ 4294967295) : ∀ (d s : Nat) (om : Bool) (seen : Sre.Seen), s + d = l.length →
    ∃ m', Goes (at_ l s om seen) m' ((d + 1) * (2 * l.length + 20)) ∧ m'.outcome = some (saysO (figsL (l.drop s)))
  | 0, s, om, seen, h => by
    obtain ⟨m', g, e⟩ := ends_no (l := l) (start := s) (handed := s) (om := om) (seen := seen.add 16) (pc := 9) (p := s)
    refine ⟨m', (Goes.cons (step_lit_end (by omega)) (Goes.cons (step_ns_end (by omega)) g)).le (by omega), ?_⟩
    rw [List.drop_eq_nil_of_le (by omega)]; exact e
  | d + 1, s, om, seen, h => by
    have hlt : s < l.length := by omega
    have hd : l.drop s = l[s] :: l.drop (s + 1) := List.drop_eq_getElem_cons hlt
    have hc : l.toArray.getD s 0 = l[s] := by rw [toArray_getD, List.getD_eq_getElem?_getD, List.getElem?_eq_getElem hlt]; rfl
    have next : ∀ (start pc p handed : Nat) (om : Bool) (seen : Sre.Seen), ∃ m', Goes (st l start pc p handed om [ns s om] 1 (some false) seen) m' ((d + 1) * (2 * l.length + 20) + 1) ∧ m'.outcome = some (saysO (figsL (l.drop (s + 1)))) := by
      intro start pc p handed om seen
      obtain ⟨m', g, e⟩ := search_goes h10 hn d (s + 1) false seen (by omega)
      exact ⟨m', Goes.cons (step_ns_next hlt (by omega)) g, e⟩
    have hB : (d + 1 + 1) * (2 * l.length + 20) = (d + 1) * (2 * l.length + 20) + (2 * l.length + 20) := by rw [Nat.add_mul (d + 1) 1, Nat.one_mul]
    rw [hB]
    generalize (d + 1) * (2 * l.length + 20) = B at next
    cases h46 : (l[s] == 46) with
    | false =>
      obtain ⟨m', g, e⟩ := next s 9 s s om (seen.add 16)
      refine ⟨m', (Goes.cons (step_lit_no hlt (by rw [hc]; exact h46)) g).le (by omega), ?_⟩
      rw [e, hd]; unfold figsL; rw [h46]; cases l.drop (s + 1) <;> rfl
    | true =>
      have go1 : (at_ l s om seen).step = st l s 11 (s + 1) s om [ns s om] 1 none (seen.add 16) := step_lit_yes hlt (by rw [hc]; exact h46)
      have no (hno : (!(l.drop (s + 1)).isEmpty && (l.drop (s + 1)).all Sre.isDigit) = false) : figsL (l.drop s) = figsL (l.drop (s + 1)) := by
        rw [hd]
        show ((l[s] == 46) && !(l.drop (s + 1)).isEmpty && (l.drop (s + 1)).all Sre.isDigit || figsL (l.drop (s + 1))) = _
        rw [h46, Bool.true_and, hno, Bool.false_or]
      by_cases hlast : l.length ≤ s + 1
      · obtain ⟨m', g, e⟩ := next s 11 (s + 1) s om ((seen.add 16).add 24)
        refine ⟨m', (Goes.cons go1 (Goes.cons (step_rep_end hlast) g)).le (by omega), ?_⟩
        rw [e, no (by rw [List.drop_eq_nil_of_le hlast]; rfl)]
      · have hne : l.drop (s + 1) ≠ [] := by
          intro h0
          have := congrArg List.length h0
          rw [List.length_drop, List.length_nil] at this
          omega
        obtain ⟨seen1, hr⟩ := step_rep (l := l) (start := s) (pos := s + 1) (handed := s) (om := om) (fr := [ns s om]) (wt := 1) (seen := seen.add 16) (by omega) hn (by omega)
        have hk := figCount_le (l.drop (s + 1))
        rw [List.length_drop] at hk
        by_cases h1 : figCount (l.drop (s + 1)) < 1
        · rw [if_pos h1] at hr
          obtain ⟨m', g, e⟩ := next s 11 (s + 1) s om seen1
          refine ⟨m', (Goes.cons go1 (Goes.cons hr g)).le (by omega), ?_⟩
          rw [e, no (by rw [figCount_pos hne h1, Bool.and_false])]
        · rw [if_neg h1] at hr
          by_cases hend : s + 1 + figCount (l.drop (s + 1)) = l.length
          · obtain ⟨m', g, e⟩ := ends_yes (l := l) (start := s) (handed := s + 1 + figCount (l.drop (s + 1))) (om := om) (seen := ((seen1.add 6).add 48).add 1) (pc := 9) (p := s)
            refine ⟨m', (Goes.cons go1 (Goes.cons hr (Goes.cons (step_at_yes h10 hend) (Goes.cons step_success (Goes.cons step_gb_yes (Goes.cons step_ns_yes g)))))).le (by omega), ?_⟩
            have hall : (l.drop (s + 1)).all Sre.isDigit = true := (figCount_all _).mp (by rw [List.length_drop]; omega)
            have hemp : (l.drop (s + 1)).isEmpty = false := by cases hx : l.drop (s + 1) with
              | nil => exact absurd hx hne
              | cons _ _ => rfl
            rw [e, hd]
            show _ = some (saysO ((l[s] == 46) && !(l.drop (s + 1)).isEmpty && (l.drop (s + 1)).all Sre.isDigit || figsL (l.drop (s + 1))))
            rw [h46, hall, hemp]; rfl
          · obtain ⟨p', hd', seen', g1⟩ := gb_fails (start := s) (fr := [ns s om]) (wt := 1) h10 (by omega) (figCount (l.drop (s + 1))) (s + 1 + figCount (l.drop (s + 1))) 21 (s + 1 + figCount (l.drop (s + 1))) (s + 1 + figCount (l.drop (s + 1))) om om ((seen1.add 6).add 48) (by omega) (by omega)
            obtain ⟨m', g, e⟩ := next s 11 p' hd' om seen'
            refine ⟨m', (Goes.cons go1 (Goes.cons hr (Goes.cons (step_at_no h10 (by omega)) (g1.trans g)))).le (by omega), ?_⟩
            rw [e, no (by
              cases hx : (l.drop (s + 1)).all Sre.isDigit with
              | false => exact Bool.and_false _
              | true => have := (figCount_all _).mpr hx; rw [List.length_drop] at this; omega)]
end

/-- the whole search -/
theorem forSearch_goes (l : List Nat) (h10 : ∀ c ∈ l, c ≠ 10) (hn : l.length ≤ 100000) :
    ∃ m', Goes (Sre.forSearch ipCode l.toArray 0 0 l.length false) m' ((l.length + 1) * (2 * l.length + 20)) ∧ m'.outcome = some (saysO (figsL l)) := by
  by_cases h2 : l.length < 2
  · have e : Sre.forSearch ipCode l.toArray 0 0 l.length false = { st l 0 9 0 0 true [] 0 (some false) (({} : Sre.Seen).add 14) with lastStart := 0 } := by
      show (if (decide (0 > l.length) || decide (l.length - 0 < 2)) = true then _ else _) = _
      rw [if_pos (by simp; omega)]
      rfl
    rw [e]
    refine ⟨{ st l 0 9 0 0 true [] 0 (some false) (({} : Sre.Seen).add 14) with lastStart := 0, outcome := some .failed }, (Goes.one rfl).le (Nat.mul_pos (by omega) (by omega)), ?_⟩
    match l, h2 with
    | [], _ => rfl
    | [c], _ => show some Sre.Outcome.failed = some (saysO ((c == 46) && false && true || false)); rw [Bool.and_false]; rfl
  · have e : Sre.forSearch ipCode l.toArray 0 0 l.length false = at_ l 0 true (({} : Sre.Seen).add 14) := by
      show (if (decide (0 > l.length) || decide (l.length - 0 < 2)) = true then _ else _) = _
      rw [if_neg (by simp; omega)]
      rfl
    obtain ⟨m', g, o⟩ := search_goes h10 (by omega) l.length 0 true (({} : Sre.Seen).add 14) (by omega)
    exact ⟨m', e ▸ g, o⟩
end Mine
namespace Mine
open PySem.Builtin.Re
section
variable {prog : Program} {w : World} {A : Around} {E : Value → Shared → Prop} {s : Shared}
theorem reDrive_goes {m m' : Sre.M} (ho : m'.outcome.isSome = true) : ∀ (turns k : Nat) (m : Sre.M) (Q : Sre.M → Shared → Prop), Sre.M.runFor k m = m' → k < 4 * turns → Q m' s → wpAny (model prog w) A (reDrive turns m) Q E s
  | 0, k, m, Q, _, hk, _ => by omega
  | turns + 1, k, m, Q, hg, hk, hq => by
    show wpAny (model prog w) A (if (m.runFor 4).outcome.isSome then pure (m.runFor 4) else do rule "sre.turn"; reDrive turns (m.runFor 4)) Q E s
    by_cases h4 : (m.runFor 4).outcome.isSome = true
    · rw [if_pos h4]
      have e : m.runFor 4 = m' := by
        rcases Nat.le_total k 4 with hle | hle
        · obtain ⟨d, hd⟩ := Nat.exists_eq_add_of_le hle
          rw [hd, runFor_add, hg, runFor_done ho]
        · obtain ⟨d, rfl⟩ := Nat.exists_eq_add_of_le hle
          rw [runFor_add, runFor_done h4] at hg
          exact hg
      rw [e]; exact wpAny_pure hq
    · rw [if_neg h4]
      refine wpAny_bind (wpAny_rule ?_)
      have hk4 : 4 < k := by
        rcases Nat.lt_or_ge 4 k with h | h
        · exact h
        · exfalso
          obtain ⟨d, hd⟩ := Nat.exists_eq_add_of_le h
          have : Sre.M.runFor 4 m = m' := by rw [hd, runFor_add, hg, runFor_done ho]
          rw [this] at h4; exact h4 ho
      obtain ⟨d, rfl⟩ := Nat.exists_eq_add_of_le (Nat.le_of_lt hk4)
      rw [runFor_add] at hg
      exact reDrive_goes (m := m.runFor 4) ho turns d (m.runFor 4) Q hg (by omega) hq

theorem rules_pass (f : Nat → Bool) (g : Nat → String) {Q : PUnit → Shared → Prop} (h : Q ⟨⟩ s) : ∀ l : List Nat,
    wpAny (model prog w) A (forIn l PUnit.unit fun i _ => do
      if f i then rule (g i)
      pure (ForInStep.yield PUnit.unit)) Q E s
  | [] => wpAny_pure h
  | i :: l => by
    rw [List.forIn_cons]
    refine wpAny_bind ?_
    split
    · exact wpAny_bind (wpAny_rule (wpAny_pure (rules_pass f g h l)))
    · exact wpAny_pure (rules_pass f g h l)
theorem reRunToEnd_goes {m m' : Sre.M} {k : Nat} {b : Bool} {Q : Option Sre.M → Shared → Prop} (hg : Sre.M.runFor k m = m') (hk : k < 2 ^ 60) (ho : m'.outcome = some (saysO b)) (hq : Q (if b then some m' else none) s) :
    wpAny (model prog w) A (reRunToEnd m) Q E s := by
  unfold reRunToEnd
  refine wpAny_bind (reDrive_goes (m := m) (m' := m') (by rw [ho]; rfl) (2 ^ 64) k m _ hg (by omega) ?_)
  refine wpAny_bind ?_
  refine rules_pass (s := s) (fun i => m'.seen.has i) (fun i => Sre.names.getD i "") ?_ _
  rw [ho]
  cases b <;> exact wpAny_pure hq

/-- what the search is handed -/
def ipTarget (P : Addr) (x : Str) (t : Tok) : ReTarget := { pattern := .ref P, string := .str x t, code := ipCode, text := x.cps, kind := 0, groups := 0, pos := 0, lim := x.cps.size }
theorem reTarget_ip {id f : String} {P c : Addr} {x : Str} {t ta tb : Tok} {pt : Str} {oP oC : Obj} {n : Nat} {Q : ReTarget → Shared → Prop}
    (hP : s.heap.get? P = some oP) (hPd : oP.data = .fields #[.str pt ta, .int 256 tb, .int 0 0, .none, .none, .ref c, .int 0 0])
    (hC : s.heap.get? c = some oC) (hCd : oC.data = .seq #[.int 14 0, .int 8 0, .int 1 0, .int 2 0, .int 4294967295 0, .int 1 0, .int 1 0, .int 46 0, .int 0 0, .int 16 0, .int 46 0, .int 24 0, .int 9 0, .int 1 0, .int 4294967295 0, .int 13 0, .int 4 0, .int 8 0, .int 0 0, .int 0 0, .int 1 0, .int 6 0, .int 5 0, .int 1 0] n)
    (hx : x.cps.size ≤ 100000) (hq : Q (ipTarget P x t) s) :
    wpAny (model prog w) A (reTarget id f ⟨[.ref P, .str x t], []⟩) Q E s := by
  obtain ⟨hp, g, d, tk, os⟩ := s
  unfold reTarget reNamed
  wp_walk
  rw [hPd]
  wp_walk
  rw [hCd]
  wp_walk
  suffices h : ∀ r, r = ipTarget P x t → Q r ⟨hp, g, d, tk, os⟩ from h _ (by
    unfold ipTarget
    rw [ReTarget.mk.injEq]
    refine ⟨rfl, rfl, ?_, rfl, rfl, rfl, Nat.zero_min _, (by show min (Int.toNat (2 ^ 63 - 1)) x.cps.size = x.cps.size; omega)⟩
    simp [reRawOf, ipCode])
  rintro r rfl
  exact hq
/-- a match object stands at a -/
def MatchAt (h : Heap) (a : Addr) : Prop := ∃ o, h.get? a = some o ∧ o.cls = .type "re.Match" ∧ o.dict = none

theorem reAnswer_ip {P : Addr} {x : Str} {t : Tok} {Q : Value → Shared → Prop} (hx : x.cps.size ≤ 100000) (h10 : ∀ c ∈ x.cps.toList, c ≠ 10)
    (hno : figsL x.cps.toList = false → Q .none s)
    (hyes : figsL x.cps.toList = true → ∀ a h', (∀ b o, s.heap.get? b = some o → h'.get? b = some o) → MatchAt h' a → Q (.ref a) { s with heap := h' }) :
    wpAny (model prog w) A (reAnswer (ipTarget P x t) (Sre.forSearch (ipTarget P x t).code (ipTarget P x t).text (ipTarget P x t).groups (ipTarget P x t).pos (ipTarget P x t).lim false))
      (fun fin s' => ∃ v, fin = .done (.ret v) ∧ Q v s') E s := by
  have hl : x.cps.toList.length = x.cps.size := Array.length_toList
  obtain ⟨m', ⟨k, hk, hg⟩, ho⟩ := forSearch_goes x.cps.toList h10 (by omega)
  have hk2 : k < 2 ^ 60 := by
    refine Nat.lt_of_le_of_lt hk ?_
    have := Nat.mul_le_mul (show x.cps.toList.length + 1 ≤ 100001 by omega) (show 2 * x.cps.toList.length + 20 ≤ 200020 by omega)
    omega
  have e : Sre.forSearch (ipTarget P x t).code (ipTarget P x t).text (ipTarget P x t).groups (ipTarget P x t).pos (ipTarget P x t).lim false = Sre.forSearch ipCode x.cps.toList.toArray 0 0 x.cps.toList.length false := by
    show Sre.forSearch ipCode x.cps 0 0 x.cps.size false = _
    rw [Array.toArray_toList, hl]
  rw [e]
  unfold reAnswer
  refine wpAny_bind (reRunToEnd_goes hg hk2 ho ?_)
  cases hf : figsL x.cps.toList with
  | false => exact wpAny_pure ⟨_, rfl, hno hf⟩
  | true =>
    obtain ⟨hp, g, d, tk, os⟩ := s
    show wpAny (model prog w) A (do ret (← reNewMatch (.ref P) (.str x t) 0 0 x.cps.size m')) _ E _
    unfold reNewMatch
    wp_walk
    refine ⟨_, rfl, hyes hf _ _ (fun b o hb => Heap.get?_push_of_some _ (Heap.get?_push_of_some _ hb)) ⟨_, Heap.get?_push_size _ rfl, rfl, rfl⟩⟩

theorem call_search {P c : Addr} {x : Str} {t ta tb : Tok} {pt : Str} {oP oC : Obj} {n : Nat} {Q : Value → Shared → Prop}
    (hP : s.heap.get? P = some oP) (hPc : oP.cls = .type "re.Pattern") (hPd : oP.data = .fields #[.str pt ta, .int 256 tb, .int 0 0, .none, .none, .ref c, .int 0 0])
    (hC : s.heap.get? c = some oC) (hCd : oC.data = .seq #[.int 14 0, .int 8 0, .int 1 0, .int 2 0, .int 4294967295 0, .int 1 0, .int 1 0, .int 46 0, .int 0 0, .int 16 0, .int 46 0, .int 24 0, .int 9 0, .int 1 0, .int 4294967295 0, .int 13 0, .int 4 0, .int 8 0, .int 0 0, .int 0 0, .int 1 0, .int 6 0, .int 5 0, .int 1 0] n)
    (hx : x.cps.size ≤ 100000) (h10 : ∀ c ∈ x.cps.toList, c ≠ 10)
    (hno : figsL x.cps.toList = false → Q .none s)
    (hyes : figsL x.cps.toList = true → ∀ a h', (∀ b o, s.heap.get? b = some o → h'.get? b = some o) → MatchAt h' a → Q (.ref a) { s with heap := h' }) :
    wpAny (model prog w) A (call (.builtin "re.Pattern.search") [.ref P, .str x t]) Q E s := by
  refine wpAny_call_entry slot_search ⟨_, hP, hPc⟩ entry_search ?_ (args_search _ _)
  unfold Builtin.«re.Pattern.search»
  exact wpAny_bind (reTarget_ip hP hPd hC hCd hx (reAnswer_ip hx h10 hno hyes))
end
end Mine
namespace Mine
section
variable {prog : Program} {w : World} {A : Around} {E : Value → Shared → Prop} {s : Shared} {h₀ : Heap} {L : Addr} {m : Str → Option Value} {news : List (Addr × Obj)} {K : Frag}
theorem no_bool_match : typeLookup (.type "re.Match") (Str.ofString "__bool__") = pure none := by rw [typeLookup_type, builtinLookup_eq_fast]; kernel_rfl
theorem no_len_match : typeLookup (.type "re.Match") (Str.ofString "__len__") = pure none := by rw [typeLookup_type, builtinLookup_eq_fast]; kernel_rfl
theorem truthy_match {a : Addr} {Q : Bool → Shared → Prop} (hm : MatchAt s.heap a) (h : Q true s) : wpAny (model prog w) A (truthy (.ref a)) Q E s := by
  obtain ⟨o, ho, hc, hd⟩ := hm
  have hT : s.TypeIs (.ref a) "re.Match" := ⟨o, ho, hc⟩
  show wpAny (model prog w) A (do
    match ← callSpecial? (.ref a) "__bool__" with
    | some (.bool b) => return b
    | some r => rule "truth.bool-not-bool"; raiseError "TypeError" s!"__bool__ should return bool, returned {← typeNameOf r}"
    | none => pure ()
    if (← specialOf (.ref a) "__len__").isNone then return true
    match ← runValue (.builtin "len" ⟨[(.ref a)], []⟩) with
    | .int n _ => return n != 0
    | _ => unsupported "internal:truth.len") Q E s
  refine wpAny_bind (wpAny_callSpecial?_none hT no_bool_match ?_)
  refine wpAny_bind (wpAny_specialOf hT no_len_match ?_)
  exact wpAny_pure h

theorem get_search {P : Addr} {oP : Obj} {pl : Sem Bool} {Q : Value × List Value → Shared → Prop} (F : Fr h₀ L s.heap m) (X : K.In h₀) (e : K.lookup P = some oP) (hc : oP.cls = .type "re.Pattern") (hd : oP.dict = none)
    (h : Q (.builtin "re.Pattern.search", [.ref P]) s) : wpAny (model prog w) A (getMethod (.ref P) (Str.ofString "search") pl) Q E s :=
  have hP : s.heap.get? P = some oP := F.keep _ _ (X _ _ e)
  getMethod_builtin ⟨_, hP, hc⟩ plainAttrs_rePattern slot_search type_search (fun a ea => by cases ea; exact ⟨_, hP, hd⟩) h

/-- a text that the search reads through -/
def plainStr (x : Str) : Prop := x.cps.size ≤ 2000 ∧ ∀ c ∈ x.cps.toList, c < 128 ∧ c ≠ 10

theorem search_K {P c : Addr} {x : Str} {t ta tb : Tok} {pt : Str} {oP oC : Obj} {n : Nat} {Q : Value → Shared → Prop}
    (F : Fr h₀ L s.heap m) (N : News h₀ L s.heap news) (X : K.In h₀)
    (eP : K.lookup P = some oP) (hPc : oP.cls = .type "re.Pattern") (hPd : oP.data = .fields #[.str pt ta, .int 256 tb, .int 0 0, .none, .none, .ref c, .int 0 0])
    (eC : K.lookup c = some oC) (hCd : oC.data = .seq #[.int 14 0, .int 8 0, .int 1 0, .int 2 0, .int 4294967295 0, .int 1 0, .int 1 0, .int 46 0, .int 0 0, .int 16 0, .int 46 0, .int 24 0, .int 9 0, .int 1 0, .int 4294967295 0, .int 13 0, .int 4 0, .int 8 0, .int 0 0, .int 0 0, .int 1 0, .int 6 0, .int 5 0, .int 1 0] n)
    (hx : plainStr x)
    (hno : figsL x.cps.toList = false → Q .none s)
    (hyes : figsL x.cps.toList = true → ∀ a h', Fr h₀ L h' m → News h₀ L h' news → MatchAt h' a → Q (.ref a) { s with heap := h' }) :
    wpAny (model prog w) A (call (.builtin "re.Pattern.search") [.ref P, .str x t]) Q E s :=
  call_search (F.keep _ _ (X _ _ eP)) hPc hPd (F.keep _ _ (X _ _ eC)) hCd (by have := hx.1; omega) (fun c hc => (hx.2 c hc).2) hno
    (fun hf a h' hk hm => hyes hf a h' (F.keeps hk) (fun p hp => ⟨hk _ _ (N p hp).1, (N p hp).2⟩) hm)
end
end Mine
namespace Mine
def mFig (x : Str) : Bool := figsL x.cps.toList
def mHdn (x : Str) : Bool := !mFig x && !(x == Str.ofString "") && !(Txt.item x 0 == Str.ofString ".") && !(Txt.item x (-1) == Str.ofString ".")
def mDm (A B : Str) : Bool :=
  if Txt.lower A == Txt.lower B then true else
  if !mHdn (Txt.lower A) then false else
  if Txt.rfind (Txt.lower A) (Txt.lower B) == -1 || Txt.rfind (Txt.lower A) (Txt.lower B) == 0 then false else
  if !Txt.startswith (Txt.lower B) (Str.ofString ".") then false else mHdn (Txt.slice (Txt.lower B) (some 1) none)
def mUdm (A B : Str) : Bool :=
  if !(!mFig (Txt.lower A) && !mFig (Txt.lower B)) then Txt.lower A == Txt.lower B else
  if Txt.startswith (Txt.lower B) (Str.ofString ".") && Txt.endswith (Txt.lower A) (Txt.lower B) then true else
  !Txt.startswith (Txt.lower B) (Str.ofString ".") && Txt.lower A == Txt.lower B

abbrev FnTells (prog : Program) (w : World) (K : Frag) (p : Program) (loose : List Str) (mean : ExcName → Option Value) (mg mb : Str → Option Value) (f : Addr) (rm : Nat) (news : List (Addr × Obj)) (pre : Prop) (vs : List Value) (R : Tok → Value) : Prop :=
  ∀ (dp un : Nat) (gd : Option (List Code)) (cn : Str) (cs : Scope) (a : Addr) (ccd : Value) (cl : List (Str × Addr)) (outer : List Env) (A₀ : Around) (base h₀ : Heap) (L : Addr) (m : Str → Option Value) (s : Shared) (Q E : Value → Shared → Prop),
    Below A₀ base outer h₀ → Fr h₀ L s.heap m → K.In h₀ → News h₀ L s.heap news → Top p loose mean mg mb h₀ → cs.kind = .function →
    pre → dp + rm < recursionLimit → un + 8 * rm < cLine → CbRet h₀ L m news s Q R →
      wpAny (model prog w) (ktrTop dp un gd cn cs L a ccd cl outer) (call (.ref f) vs) Q E s
theorem use_of {prog : Program} {w : World} {K : Frag} {p : Program} {loose : List Str} {mean : ExcName → Option Value} {mg mb : Str → Option Value} {f : Addr} {rm : Nat} {news : List (Addr × Obj)} {pre : Prop} {vs : List Value} {R : Tok → Value}
    (C : FnTells prog w K p loose mean mg mb f rm news pre vs R)
    {dp un : Nat} {gd : Option (List Code)} {cn : Str} {cs : Scope} {a : Addr} {ccd : Value} {cl : List (Str × Addr)} {outer : List Env} {A₀ : Around} {base h₀ : Heap} {L : Addr} {m : Str → Option Value} {s : Shared} {Q E : Value → Shared → Prop}
    (B : Below A₀ base outer h₀) (F : Fr h₀ L s.heap m) (X : K.In h₀) (N : News h₀ L s.heap news) (T : Top p loose mean mg mb h₀) (hk : cs.kind = .function) (hp : pre) (hd : dp + rm < recursionLimit) (hu : un + 8 * rm < cLine) (ret : CbRet h₀ L m news s Q R) :
    wpAny (model prog w) (ktrTop dp un gd cn cs L a ccd cl outer) (call (.ref f) vs) Q E s :=
  C dp un gd cn cs a ccd cl outer A₀ base h₀ L m s Q E B F X N T hk hp hd hu ret
end Mine
namespace Mine
abbrev Fn (w : World) (mean : ExcName → Option Value) (mg mb : Str → Option Value) (f : Addr) (rm : Nat) (news : List (Addr × Obj)) (pre : Prop) (vs : List Value) (R : Tok → Value) : Prop :=
  FnTells Challenge.rw_wy0008_01.row.prog w (Mine.hd.heap_39 w.params) Mine.hd.view_39 (looseW Mine.hd.view_39 [Str.ofString "IPV4_RE"]) mean mg mb f rm news pre vs R
end Mine
namespace Mine
open Builtin Builtin.Str
def lowC (c : Nat) : Nat := if 65 ≤ c ∧ c ≤ 90 then c + 32 else c
def upC (c : Nat) : Nat := if 97 ≤ c ∧ c ≤ 122 then c - 32 else c
theorem lowerOf_ascii {c : Nat} (h : c < 128) : Unicode.lowerOf c = [lowC c] := (by decide +kernel : ∀ c, c < 128 → Unicode.lowerOf c = [lowC c]) c h
theorem upperOf_ascii {c : Nat} (h : c < 128) : Unicode.upperOf c = [upC c] := (by decide +kernel : ∀ c, c < 128 → Unicode.upperOf c = [upC c]) c h
theorem placed_map (x : Str) (f : Nat → Nat → List Nat) (g : Nat → Nat) (h : ∀ i c, x.cps[i]? = some c → f i c = [g c]) : (placed x f).toList = x.cps.toList.map g := by
  have e : x.cps.mapIdx (fun i c => (f i c).toArray) = x.cps.map (fun c => #[g c]) := by
    apply Array.ext_getElem?
    intro i
    rw [Array.getElem?_mapIdx, Array.getElem?_map]
    cases hc : x.cps[i]? with
    | none => rfl
    | some c => simp only [Option.map_some]; rw [h i c hc]
  unfold placed
  rw [e]
  obtain ⟨⟨l⟩⟩ := x
  simp only [List.map_toArray, Array.toList_flatten]
  clear e h
  induction l with
  | nil => rfl
  | cons a l ih => simp_all
theorem lower_list {x : Str} (h : ∀ c ∈ x.cps.toList, c < 128) : (Txt.lower x).cps.toList = x.cps.toList.map lowC := by
  refine placed_map x _ lowC fun i c hc => ?_
  have hm : c < 128 := h c (Array.mem_toList_iff.mpr (Array.mem_of_getElem? hc))
  show Unicode.lowerAt x.cps i = _
  unfold Unicode.lowerAt
  rw [hc]
  show (if (c == 0x3A3 && Unicode.endsWord x.cps i) = true then [0x3C2] else Unicode.lowerOf c) = _
  rw [if_neg (by rw [beq_eq_false_iff_ne.mpr (by omega), Bool.false_and]; exact Bool.false_ne_true), lowerOf_ascii hm]
theorem upper_list {x : Str} (h : ∀ c ∈ x.cps.toList, c < 128) : (Txt.upper x).cps.toList = x.cps.toList.map upC := by
  refine placed_map x _ upC fun i c hc => ?_
  exact upperOf_ascii (h c (Array.mem_toList_iff.mpr (Array.mem_of_getElem? hc)))
theorem lowC_plain {c : Nat} (h : c < 128 ∧ c ≠ 10) : lowC c < 128 ∧ lowC c ≠ 10 := by unfold lowC; split <;> omega
theorem upC_plain {c : Nat} (h : c < 128 ∧ c ≠ 10) : upC c < 128 ∧ upC c ≠ 10 := by unfold upC; split <;> omega
theorem plain_lower {x : Str} (h : plainStr x) : plainStr (Txt.lower x) := by
  have e := lower_list (x := x) fun c hc => (h.2 c hc).1
  refine ⟨?_, fun c hc => ?_⟩
  · rw [← Array.length_toList, e, List.length_map, Array.length_toList]; exact h.1
  · rw [e] at hc
    obtain ⟨d, hd, rfl⟩ := List.mem_map.mp hc
    exact lowC_plain (h.2 d hd)
theorem plain_upper {x : Str} (h : plainStr x) : plainStr (Txt.upper x) := by
  have e := upper_list (x := x) fun c hc => (h.2 c hc).1
  refine ⟨?_, fun c hc => ?_⟩
  · rw [← Array.length_toList, e, List.length_map, Array.length_toList]; exact h.1
  · rw [e] at hc
    obtain ⟨d, hd, rfl⟩ := List.mem_map.mp hc
    exact upC_plain (h.2 d hd)
theorem plain_slice {x : Str} {l u : Option Int} (h : plainStr x) : plainStr (Txt.slice x l u) := by
  refine ⟨Nat.le_trans (Txt.slice_le x l u) h.1, fun c hc => ?_⟩
  unfold Txt.slice at hc
  split at hc
  · exact h.2 c hc
  · have hc : c ∈ (strSliceIndices l u 1 x.length).filterMap (x.cps[·]?) := by simpa using hc
    obtain ⟨i, _, hi⟩ := List.mem_filterMap.mp hc
    exact h.2 c (Array.mem_toList_iff.mpr (Array.mem_of_getElem? hi))
end Mine
namespace Mine
open Builtin Builtin.Str
section
variable {prog : Program} {w : World} {A : Around} {E : Value → Shared → Prop} {s : Shared} {x y : Str} {t u : Tok} {Q : Value → Shared → Prop}
theorem short_of {n : Nat} (h : n ≤ 100000) : tooLong n = false := by
  show decide (n > sizeLine) = false
  rw [sizeLine_eq]
  exact decide_eq_false (by omega)
theorem lower_P (hx : plainStr x) (h : Q (.str (Txt.lower x) s.toks) { s with toks := s.toks + 1 }) : wpAny (model prog w) A (call (.builtin "str.lower") [.str x t]) Q E s :=
  SC.lower (short_of (Nat.le_trans (plain_lower hx).1 (by decide))) h
theorem upper_P (hx : plainStr x) (h : Q (.str (Txt.upper x) s.toks) { s with toks := s.toks + 1 }) : wpAny (model prog w) A (call (.builtin "str.upper") [.str x t]) Q E s :=
  SC.upper (short_of (Nat.le_trans (plain_upper hx).1 (by decide))) h
end
end Mine
namespace Mine
theorem plain_fits {x : Str} (h : plainStr x) : x.length ≤ sizeLine := by
  have := h.1
  show x.cps.size ≤ _
  rw [sizeLine_eq]; omega
end Mine
namespace Mine
open Builtin Builtin.Str
/-- the pieces of a text between its points -/
def dotParts (x : Str) : List Str := Txt.split x (Str.ofString ".")
def splitLast (x : Str) : Str := (dotParts x).getLastD (Str.ofString "")

structure SpL (x : Str) (D : Addr) (l : List (Str × Tok)) : Prop where
  eq : l.map (·.1) = dotParts x
  pos : 1 ≤ l.length
  le : l.length ≤ 2002

theorem split_len {x y : Str} : 1 ≤ (Txt.split x y).length ∧ (Txt.split x y).length ≤ x.length + 2 := by
  unfold Txt.split
  split
  · exact ⟨Nat.le_refl _, by show 1 ≤ _; omega⟩
  · split
    · exact ⟨Nat.le_refl _, by show 1 ≤ _; omega⟩
    · rw [length_partsBetween]
      have := StrLaws.occ_length_le x y 0 x.length (x.length + 1)
      omega
section
variable {prog : Program} {w : World} {A : Around} {E : Value → Shared → Prop} {s : Shared} {h₀ : Heap} {L : Addr} {m : Str → Option Value} {news : List (Addr × Obj)} {x : Str} {t u : Tok} {Q : Value → Shared → Prop} {D : Addr} {l : List (Str × Tok)}
theorem split_P (F : Fr h₀ L s.heap m) (N : News h₀ L s.heap news) (hx : plainStr x)
    (h : ∀ D l h' k, SpL x D l → Fr h₀ L h' m → News h₀ L h' ((D, listOf (strValues l).toArray 0) :: news) → (∀ q ∈ news, q.1 < D) → Q (.ref D) { s with heap := h', toks := k }) :
    wpAny (model prog w) A (call (.builtin "str.split") [.str x t, .str (Str.ofString ".") u]) Q E s := by
  have hl := hx.1
  refine splitN1 F N (by decide +kernel) (fun l h' k he F' N' => h _ l h' k ⟨he, ?_, ?_⟩ F' N' fun q hq => Heap.lt_size (N q hq).1) (by show x.cps.size + 2 ≤ _; rw [sizeLine_eq]; omega)
  · have := congrArg List.length he
    rw [List.length_map] at this
    rw [this]; exact split_len.1
  · have := congrArg List.length he
    rw [List.length_map] at this
    rw [this]
    have := (split_len (x := x) (y := Str.ofString ".")).2
    have e : x.length = x.cps.size := rfl
    omega
theorem len_SpL (H : SpL x D l) (N : News h₀ L s.heap news) (hm : (D, listOf (strValues l).toArray 0) ∈ news) (h : Q (.int (dotParts x).length (s.toks + 1)) { s with toks := s.toks + 1 + 1 }) :
    wpAny (model prog w) A (call (.builtin "len") [.ref D]) Q E s := by
  have e : (strValues l).toArray.size = (dotParts x).length := by
    rw [← H.eq]; simp [strValues]
  have h2 := H.le
  have h3 : (dotParts x).length = l.length := by rw [← H.eq, List.length_map]
  refine Calls.call_len_list (PySem.IsL.isList (n := 0) (N _ hm).1) (by rw [e]; omega) ?_
  rw [e]; exact h
theorem item_SpL {value slice : Expr} {k : Int} {tk : Tok} (H : SpL x D l) (N : News h₀ L s.heap news) (hm : (D, listOf (strValues l).toArray 0) ∈ news) (hk : k = (dotParts x).length - 1)
    (h : ∀ u, Q (.str (splitLast x) u) s)
    (hs : subscripted slice false (.ref D) (.int k tk) = operate [.ref D, .int k tk] (getItem (.ref D) (.int k tk)) := by with_unfolding_all rfl) :
    wpAny (model prog w) A (subscriptTail value slice (.ref D) (.int k tk)) Q E s := by
  have h2 := H.le
  have h1 := H.pos
  have h3 : (dotParts x).length = l.length := by rw [← H.eq, List.length_map]
  have hL : s.heap.IsList D (strValues l).toArray := PySem.IsL.isList (n := 0) (N _ hm).1
  have hlt : k.toNat < l.length := by omega
  have ek : k.toNat = l.length - 1 := by omega
  have hv : (strValues l).toArray[k.toNat]? = some (.str (splitLast x) l[k.toNat].2) := by
    have e1 : (strValues l).toArray[k.toNat]? = some (.str l[k.toNat].1 l[k.toNat].2) := by simp [strValues, hlt]
    rw [e1]
    congr 2
    unfold splitLast
    rw [← H.eq, List.getLastD_eq_getLast?, List.getLast?_eq_getElem?, List.length_map, List.getElem?_map, ← ek, List.getElem?_eq_getElem hlt]
    rfl
  exact tail_any hL.typeIs slot_list_getitem.lookup (wpAny_getItem_list hL (by omega) (by omega) hv (h _)) hs
end
end Mine
namespace Mine
open Builtin Builtin.Str
theorem dot_is : Str.ofString "." = ⟨#[46]⟩ := by decide +kernel
theorem empty_is : Str.ofString "" = ⟨#[]⟩ := by decide +kernel
theorem join_last (sep : Str) : ∀ (ps : List Str), ps ≠ [] → ∃ pre : List Nat, (Str.join sep ps).cps.toList = pre ++ (ps.getLastD (Str.ofString "")).cps.toList ∧ (ps.length = 1 ∧ pre = [] ∨ 1 < ps.length ∧ ∃ q, pre = q ++ sep.cps.toList)
  | [], h => absurd rfl h
  | [x], _ => ⟨[], rfl, .inl ⟨rfl, rfl⟩⟩
  | x :: y :: r, _ => by
    obtain ⟨pre, e, h⟩ := join_last sep (y :: r) (by simp)
    refine ⟨x.cps.toList ++ sep.cps.toList ++ pre, ?_, .inr ⟨by simp, ?_⟩⟩
    · show (x ++ sep ++ Str.join sep (y :: r)).cps.toList = _
      rw [Str.cps_append, Str.cps_append, Array.toList_append, Array.toList_append, e]
      simp [List.getLastD]
    · rcases h with ⟨_, rfl⟩ | ⟨_, q, rfl⟩
      · exact ⟨x.cps.toList, by simp⟩
      · exact ⟨x.cps.toList ++ sep.cps.toList ++ q, by simp⟩
theorem getLastD_mem {ps : List Str} {d : Str} (h : ps ≠ []) : ps.getLastD d ∈ ps := by
  rw [List.getLastD_eq_getLast?, List.getLast?_eq_some_getLast h]
  exact List.getLast_mem h
/-- the pieces' shape -/
theorem split_shape (x : Str) : ∃ pre : List Nat, x.cps.toList = pre ++ (splitLast x).cps.toList ∧ 46 ∉ (splitLast x).cps.toList ∧ ((dotParts x).length = 1 ∧ pre = [] ∨ 1 < (dotParts x).length ∧ ∃ q, pre = q ++ [46]) := by
  have hne : dotParts x ≠ [] := by
    intro h
    have := (split_len (x := x) (y := Str.ofString ".")).1
    unfold dotParts at h
    rw [h] at this
    exact absurd this (by decide)
  obtain ⟨pre, e, h⟩ := join_last (Str.ofString ".") (dotParts x) hne
  rw [show Str.join (Str.ofString ".") (dotParts x) = x from StrLaws.join_split x _] at e
  refine ⟨pre, e, ?_, ?_⟩
  · have hm : splitLast x ∈ Txt.split x ⟨#[46]⟩ := by rw [← dot_is]; exact getLastD_mem hne
    exact StrLaws.split_free x 46 _ hm
  · rw [dot_is] at h; exact h
theorem plain_splitLast {x : Str} (h : plainStr x) : plainStr (splitLast x) := by
  obtain ⟨pre, e, _⟩ := split_shape x
  refine ⟨?_, fun c hc => h.2 c (by rw [e]; exact List.mem_append_right _ hc)⟩
  have e1 := congrArg List.length e
  rw [List.length_append] at e1
  have e2 : x.cps.toList.length = x.cps.size := Array.length_toList
  have e3 : (splitLast x).cps.toList.length = (splitLast x).cps.size := Array.length_toList
  have := h.1
  omega
end Mine
namespace Mine
open PySem.Spec PySem.SeqAt
theorem canLayAll0_strs : ∀ l : List Str, (∀ y ∈ l, ∀ c ∈ y.cps.toList, c < 128) → PyData.canLayAll0 (l.map PyData.str) = true
  | [], _ => by simp [PyData.canLayAll0]
  | y :: r, h => by
    have h1 : PyData.strOk y = true := by
      unfold PyData.strOk
      rw [← Array.all_toList]
      refine List.all_eq_true.mpr fun c hc => decide_eq_true ?_
      have := h y (List.mem_cons_self ..) c hc
      omega
    simp [PyData.canLayAll0, PyData.canLay0, h1, canLayAll0_strs r fun z hz => h z (List.mem_cons_of_mem _ hz)]
theorem depthAll_strs : ∀ l : List Str, PyData.depthAll (l.map PyData.str) ≤ 1
  | [] => by simp [PyData.depthAll]
  | n :: r => by
    have := depthAll_strs r
    simp only [List.map_cons, PyData.depthAll, PyData.depth]
    omega
theorem shaped_strs (l : List Str) (h : ∀ y ∈ l, ∀ c ∈ y.cps.toList, c < 128) : shaped (.list (l.map PyData.str)) = true := by
  have h1 := depthAll_strs l
  have h2 : PyData.depth (.list (l.map PyData.str)) ≤ 64 := by simp only [PyData.depth]; omega
  show (PyData.canLay0 (.list (l.map PyData.str)) && decide (PyData.depth (.list (l.map PyData.str)) ≤ 64)) = true
  rw [Bool.and_eq_true]
  exact ⟨by simp only [PyData.canLay0]; exact canLayAll0_strs l h, decide_eq_true h2⟩
section
variable {prog : Program} {w : World} {A : Around} {E : Value → Shared → Prop} {s : Shared} {h₀ : Heap} {L : Addr} {news : List (Addr × Obj)}
theorem eq_nilK {a b : Addr} {ys : List Value} {l : List Str} {na nb : Nat} {Q : Value → Shared → Prop} (N : News h₀ L s.heap news) (ha : (a, listOf ys.toArray na) ∈ news) (hc : CarriedAll ys (l.map PyData.str)) (hb : (b, listOf #[] nb) ∈ news) (hl : ∀ y ∈ l, ∀ c ∈ y.cps.toList, c < 128)
    (hu : A.units + 64 < cLine) (h : Q (.bool l.isEmpty) s) : wpAny (model prog w) A (compareOp .Eq (.ref a) (.ref b)) Q E s :=
  eq_dataH_same (da := .list (l.map PyData.str)) (db := .list []) (Reads.list (N _ ha).1 rfl rfl (hc.reads _)) (Reads.list (N _ hb).1 rfl rfl ReadsAll.nil)
    (shaped_strs l hl) (shaped_strs [] (fun _ h => nomatch h)) hu (by cases l <;> simp [noMix, noMixAll])
    (by
      have e : PySem.Spec.same (.list (l.map PyData.str)) (.list []) = l.isEmpty := by cases l <;> simp [PySem.Spec.same, PySem.Spec.sameAll]
      rw [e]; exact h)
theorem signs_plain {x : Str} {p : Str → Bool} (h : plainStr x) : ∀ y ∈ (signs x).filter p, ∀ c ∈ y.cps.toList, c < 128 := by
  intro y hy c hc
  have hy := (List.mem_filter.mp hy).1
  obtain ⟨d, hd, rfl⟩ := List.mem_map.mp hy
  have : c = d := by simpa using hc
  subst this
  exact (h.2 c hd).1
end
/-- the law's figures, as its text reckons them -/
def lFig (x : Str) : Bool := decide (1 < ((dotParts x).length : Int)) && (splitLast x != Str.ofString "") && ((signs (splitLast x)).filter fun a => !!(Builtin.Str.occurrences (Str.ofString "0123456789") a 0 (Str.ofString "0123456789").length 1).isEmpty).isEmpty
end Mine
namespace Mine
def lName (x : Str) : Bool := !lFig x && (x != Str.ofString "") && (Txt.item x 0 != Str.ofString ".") && (Txt.item x ((x.length : Int) - 1) != Str.ofString ".")
end Mine
namespace Mine
section
variable {prog : Program} {w : World} {A : Around} {E : Value → Shared → Prop} {s : Shared} {x : Str} {t : Tok} {Q : Value → Shared → Prop}
theorem len_P (hx : plainStr x) (h : x.length ≤ 2000 → Q (.int x.length (s.toks + 1)) { s with toks := s.toks + 1 + 1 }) : wpAny (model prog w) A (call (.builtin "len") [.str x t]) Q E s :=
  len_str (by have := hx.1; show ¬ (x.cps.size : Int) ≥ 2 ^ 63; omega) (h hx.1)
end
end Mine
namespace Mine
/-- two lists, place by place -/
inductive All2 {α β : Type} (V : α → β → Prop) : List α → List β → Prop
  | nil : All2 V [] []
  | cons {a : α} {b : β} {as : List α} {bs : List β} : V a b → All2 V as bs → All2 V (a :: as) (b :: bs)
theorem All2.append {α β : Type} {V : α → β → Prop} {as as' : List α} {bs bs' : List β} (h : All2 V as bs) (h' : All2 V as' bs') : All2 V (as ++ as') (bs ++ bs') := by
  induction h with
  | nil => exact h'
  | cons hv _ ih => exact .cons hv ih
theorem All2.length {α β : Type} {V : α → β → Prop} {as : List α} {bs : List β} (h : All2 V as bs) : bs.length = as.length := by
  induction h with
  | nil => rfl
  | cons _ _ ih => rw [List.length_cons, List.length_cons, ih]
def intV (k : Int) (v : Value) : Prop := ∃ t, v = .int k t
theorem All2.ints {ks : List Int} {vs : List Value} (h : All2 intV ks vs) : IntsAre vs ks := by
  induction h with
  | nil => exact .nil
  | cons hv _ ih => obtain ⟨t, rfl⟩ := hv; exact .cons _ t ih
def strV (f : Int → Str) (k : Int) (v : Value) : Prop := ∃ t, v = .str (f k) t
theorem All2.strs {f : Int → Str} {ks : List Int} {vs : List Value} (h : All2 (strV f) ks vs) : ∃ l : List (Str × Tok), vs = strValues l ∧ l.map (·.1) = ks.map f := by
  induction h with
  | nil => exact ⟨[], rfl, rfl⟩
  | cons hv _ ih =>
    obtain ⟨t, rfl⟩ := hv
    obtain ⟨l, rfl, e⟩ := ih
    exact ⟨(_, t) :: l, rfl, by simp [e]⟩

def PickYes (p : Int → Bool) (V : Int → Value → Prop) (news : List (Addr × Obj)) (k : Int) (y : Value) (news' : List (Addr × Obj)) : Prop := news' = news ∧ p k = true ∧ V k y
def PickNo (p : Int → Bool) (news : List (Addr × Obj)) (k : Int) (news' : List (Addr × Obj)) : Prop := news' = news ∧ p k = false
section
variable {prog : Program} {w : World} {A : Around} {h₀ : Heap} {L : Addr} {m : Str → Option Value} {env : Env} {ct elt : Expr} {x : Str} {scope : Scope} {cl : List (Str × Addr)} {s : Shared} {S : List (Addr × Obj) → Prop} {Fin : List Value → List (Addr × Obj) → Prop} {news : List (Addr × Obj)}
theorem rest_walk {n : Nat} (p : Int → Bool) (V : Int → Value → Prop)
    (turn : ∀ k t I oI C oC D m₂ ys h tk (E' : Value → Shared → Prop), 0 ≤ k → k < (n : Int) → LCg.NsObj oC m₂ → m₂ x = some (.int k t) → Fr h₀ L h m → News h₀ L h ((I, oI) :: (C, oC) :: (D, LCg.lst ys) :: news) → LCg.Off3 I C D news → ((@Ne Nat I C) ∧ (@Ne Nat I D) ∧ (@Ne Nat C D)) →
      wpAny (model prog w) A (isTrue ct (compEnvC scope cl C env) (eval ct (compEnvC scope cl C env))) (fun b s' => if b = true then wpAny (model prog w) A (eval elt (compEnvC scope cl C env)) (LCg.CompEnd h₀ L m { s with heap := h, toks := tk } I oI C oC D (LCg.lst ys) S (fun y news' => PickYes p V news k y news')) E' s'
        else LCg.CompEnd h₀ L m { s with heap := h, toks := tk } I oI C oC D (LCg.lst ys) S (fun _ news' => PickNo p news k news') Value.none s') E' { s with heap := h, toks := tk })
    (fin : ∀ ys, All2 V ((rangeKs 0 n).filter p) ys → Fin ys news) : LCt.CompRestT prog w A h₀ L m env ct elt x scope cl s S (fun i v => ∃ t, v = .int (0 + (i : Int)) t) Fin n 0 [] news := by
  have key : ∀ (j i : Nat) (ys : List Value), i + j = n → All2 V (((rangeKs 0 n).take i).filter p) ys → LCt.CompRestT prog w A h₀ L m env ct elt x scope cl s S (fun i v => ∃ t, v = .int (0 + (i : Int)) t) Fin j i ys news := by
    intro j
    induction j with
    | zero =>
      intro i ys hi hy
      have e : i = (rangeKs 0 n).length := by rw [rangeKs_length]; omega
      rw [e, List.take_length] at hy
      exact LCt.CompRestT.zero (fin ys hy)
    | succ j ih =>
      intro i ys hi hy
      refine LCt.CompRestT.succ ?_
      intro v I oI C oC D m₂ h tk E' hv hC hx F N off ne
      obtain ⟨t, rfl⟩ := hv
      have e0 : (0 : Int) + (i : Int) = (i : Int) := by omega
      rw [e0] at hx
      have hs : ((rangeKs 0 n).take (i + 1)).filter p = ((rangeKs 0 n).take i).filter p ++ (if p (i : Int) = true then [(i : Int)] else []) := by
        have hk : (rangeKs 0 n)[i]? = some (i : Int) := by
          have : i < n := by omega
          simp [rangeKs, this]
        rw [List.take_add_one, hk, List.filter_append]
        congr 1
        simp only [Option.toList_some, List.filter_cons, List.filter_nil]
      refine wpAny_mono (turn (i : Int) t I oI C oC D m₂ ys h tk E' (by omega) (by omega) hC hx F N off ne) (fun b s₂ hq => ?_) fun _ _ e => e
      cases b with
      | true =>
        simp only [if_true] at hq ⊢
        refine wpAny_mono hq (fun y s₃ hr => ?_) fun _ _ e => e
        obtain ⟨h', tk', nw, e, F', N', off', hS, hn, hp, hV⟩ := hr
        rw [hn] at N' off' hS
        refine ⟨h', tk', news, e, F', N', off', hS, ih (i + 1) _ (by omega) ?_⟩
        rw [hs, if_pos hp]
        exact hy.append (.cons hV .nil)
      | false =>
        simp only [Bool.false_eq_true, if_false] at hq ⊢
        obtain ⟨h', tk', nw, e, F', N', off', hS, hn, hp⟩ := hq
        rw [hn] at N' off' hS
        refine ⟨h', tk', news, e, F', N', off', hS, ih (i + 1) _ (by omega) ?_⟩
        rw [hs, if_neg (by rw [hp]; exact Bool.false_ne_true), List.append_nil]
        exact hy
  exact key n 0 [] (by omega) .nil

theorem pick_yes {I C D : Addr} {oI oC oD : Obj} {s₁ : Shared} {h' : Heap} {tk : Nat} {p : Int → Bool} {V : Int → Value → Prop} {k : Int} {y : Value} (F : Fr h₀ L h' m) (N : News h₀ L h' ((I, oI) :: (C, oC) :: (D, oD) :: news)) (off : LCg.Off3 I C D news) (hS : S news) (hp : p k = true) (hV : V k y) :
    LCg.CompEnd h₀ L m s₁ I oI C oC D oD S (fun y news' => PickYes p V news k y news') y { s₁ with heap := h', toks := tk } :=
  LCg.CompEnd.intro F N news (fun _ h => h) off hS ⟨rfl, hp, hV⟩
theorem pick_no {I C D : Addr} {oI oC oD : Obj} {s₁ : Shared} {h' : Heap} {tk : Nat} {p : Int → Bool} {k : Int} {y : Value} (F : Fr h₀ L h' m) (N : News h₀ L h' ((I, oI) :: (C, oC) :: (D, oD) :: news)) (off : LCg.Off3 I C D news) (hS : S news) (hp : p k = false) :
    LCg.CompEnd h₀ L m s₁ I oI C oC D oD S (fun _ news' => PickNo p news k news') y { s₁ with heap := h', toks := tk } :=
  LCg.CompEnd.intro F N news (fun _ h => h) off hS ⟨rfl, hp⟩
end

/-- where the law finds the other text -/
def spotP (x y : Str) (k : Int) : Bool := Txt.slice x (some k) (some (k + (y.length : Int))) == y
def spotsL (x y : Str) : List Int := (rangeKs 0 (x.length + 1)).filter (spotP x y)
structure PairMark (x y : Str) : Prop where
section
variable {prog : Program} {w : World} {A : Around} {h₀ : Heap} {L : Addr} {m : Str → Option Value} {env : Env} {ct elt : Expr} {z : Str} {scope : Scope} {cl : List (Str × Addr)} {s₁ : Shared} {news : List (Addr × Obj)} {x y : Str}
theorem spots_src {Fin : Shared → List Value → List (Addr × Obj) → Prop} {r : Addr} {b : Int} {t u v : Tok} (_pm : PairMark x y) (hx : plainStr x)
    (hh : A.handled = none) (F : Fr h₀ L s₁.heap m) (N : News h₀ L s₁.heap news) (hr : IsRange s₁.heap r 0 b 1 t u v) (hb : b = (x.length : Int) + 1)
    (turn : ∀ g k t I oI C oC D m₂ ys h tk (E' : Value → Shared → Prop), 0 ≤ k → k < ((x.length + 1 : Nat) : Int) → LCg.NsObj oC m₂ → m₂ z = some (.int k t) → Fr h₀ L h m → News h₀ L h ((I, oI) :: (C, oC) :: (D, LCg.lst ys) :: news) → LCg.Off3 I C D news → ((@Ne Nat I C) ∧ (@Ne Nat I D) ∧ (@Ne Nat C D)) →
      wpAny (model prog w) A (isTrue ct (compEnvC scope cl C env) (eval ct (compEnvC scope cl C env))) (fun b s' => if b = true then wpAny (model prog w) A (eval elt (compEnvC scope cl C env)) (LCg.CompEnd h₀ L m { { s₁ with heap := g } with heap := h, toks := tk } I oI C oC D (LCg.lst ys) (fun _ => True) (fun y' news' => PickYes (spotP x y) intV news k y' news')) E' s'
        else LCg.CompEnd h₀ L m { { s₁ with heap := g } with heap := h, toks := tk } I oI C oC D (LCg.lst ys) (fun _ => True) (fun _ news' => PickNo (spotP x y) news k news') Value.none s') E' { { s₁ with heap := g } with heap := h, toks := tk })
    (fin : ∀ g ys, IntsAre ys (spotsL x y) → Fin { s₁ with heap := g } ys news) :
    LCt.CompSrcT prog w A h₀ L m env ct elt z scope cl Fin (.ref r) s₁ := by
  subst hb
  have hl : x.length ≤ 2000 := hx.1
  refine LCt.CompSrcT.range (n := x.length + 1) hh F N hr (small_one (by omega) (by omega) (by omega) (by omega)) ?_ (by rw [sizeLine_eq]; omega) fun g => ?_
  · have := rangeSize_nat 0 ((x.length : Int) + 1)
    rw [this]; omega
  · exact rest_walk (spotP x y) intV (turn g) fun ys h => fin g ys h.ints
end
end Mine
namespace Mine
theorem spots_le {x y : Str} : (spotsL x y).length ≤ x.length + 1 := by
  unfold spotsL
  exact Nat.le_trans (List.length_filter_le _ _) (by rw [rangeKs_length]; exact Nat.le_refl _)
section
variable {prog : Program} {w : World} {A : Around} {E : Value → Shared → Prop} {s : Shared} {h₀ : Heap} {L : Addr} {news : List (Addr × Obj)} {x y : Str} {D : Addr} {ys : List Value} {n : Nat} {Q : Value → Shared → Prop}
theorem len_spots (hx : plainStr x) (hI : IntsAre ys (spotsL x y)) (N : News h₀ L s.heap news) (hm : (D, listOf ys.toArray n) ∈ news) (h : Q (.int ((spotsL x y).length : Nat) (s.toks + 1)) { s with toks := s.toks + 1 + 1 }) :
    wpAny (model prog w) A (call (.builtin "len") [.ref D]) Q E s := by
  have e : ys.toArray.size = (spotsL x y).length := by rw [List.size_toArray]; exact hI.length
  have h1 := spots_le (x := x) (y := y)
  have h2 : x.length ≤ 2000 := hx.1
  refine Calls.call_len_list (PySem.IsL.isList (n := n) (N _ hm).1) (by rw [e]; omega) ?_
  rw [e]; exact h
theorem item_spots {value slice : Expr} {k : Int} {tk : Tok} (hx : plainStr x) (hI : IntsAre ys (spotsL x y)) (N : News h₀ L s.heap news) (hm : (D, listOf ys.toArray n) ∈ news) (hk : k = ((spotsL x y).length : Nat) - 1) (hne : spotsL x y ≠ [])
    (h : ∀ u, Q (.int ((spotsL x y).getLastD 0) u) s)
    (hs : subscripted slice false (.ref D) (.int k tk) = operate [.ref D, .int k tk] (getItem (.ref D) (.int k tk)) := by with_unfolding_all rfl) :
    wpAny (model prog w) A (subscriptTail value slice (.ref D) (.int k tk)) Q E s := by
  have h1 := spots_le (x := x) (y := y)
  have h2 : x.length ≤ 2000 := hx.1
  have hp : 0 < (spotsL x y).length := List.length_pos_iff.mpr hne
  have hL : s.heap.IsList D ys.toArray := PySem.IsL.isList (n := n) (N _ hm).1
  have ek : k.toNat = (spotsL x y).length - 1 := by omega
  have hlt : k.toNat < (spotsL x y).length := by omega
  obtain ⟨t, ht⟩ : ∃ t, ys.toArray[k.toNat]? = some (.int ((spotsL x y).getLastD 0) t) := by
    have hlt' : k.toNat < ys.length := by rw [hI.length]; exact hlt
    obtain ⟨a, t, ha, hv⟩ := IntsAre.at hI k.toNat _ (List.getElem?_eq_getElem hlt')
    refine ⟨t, ?_⟩
    have : a = (spotsL x y).getLastD 0 := by
      rw [List.getLastD_eq_getLast?, List.getLast?_eq_getElem?, ← ek, hv]; rfl
    rw [← this, ← ha]
    simp [hlt']
  exact tail_any hL.typeIs slot_list_getitem.lookup (wpAny_getItem_list hL (by omega) (by omega) ht (h _)) hs
end
/-- the law's matches, as its text reckons them -/
def lMatch (x y : Str) : Bool :=
  if x == y then true else
  if !lName x || decide (spotsL x y = []) || (spotsL x y).getLastD 0 == 0 then false else
  Txt.slice y none (some 1) == Str.ofString "." && lName (Txt.slice y (some 1) none)
end Mine
namespace Mine
local macro_rules | `(tactic| walk_at "getMethod ref") => `(tactic| (k_here; (with_reducible show wpAny _ _ (getMethod (Value.ref _) (Str.ofString "search") _) _ _ _); (refine' get_search ?F ?X ?e ?c ?d ?_; (case F => k_asm); (case X => k_asm); (case e => k_is); (case c => rfl); (case d => rfl))))
local macro_rules | `(tactic| walk_at "call builtin:re.Pattern.search") => `(tactic| (k_here; focus (refine' search_K ?F ?N ?X ?eP ?hPc ?hPd ?eC ?hCd ?hx ?_ ?_; (case F => k_asm); (case N => k_asm); (case X => k_asm); (case eP => k_is); (case hPc => rfl); (case hPd => rfl); (case eC => k_is); (case hCd => rfl); (case hx => assumption); all_goals (first | (intro hfig aM hM FM NM MM) | intro hfig))))
local macro_rules | `(tactic| walk_at "truthy ref") => `(tactic| (k_here; (refine' truthy_match ?hm ?_; (case hm => assumption))))
local macro_rules | `(tactic| walk_at "call builtin:str.lower") => `(tactic| (k_here; (with_reducible show wpAny _ _ (call (Value.builtin "str.lower") [Value.str _ _]) _ _ _); (refine lower_P (by first | assumption | exact plain_lower (by assumption) | exact plain_slice (by assumption) | exact plain_slice (plain_lower (by assumption)) | exact plain_splitLast (by assumption)) ?_)))
local macro_rules | `(tactic| walk_at "call builtin:str.upper") => `(tactic| (k_here; (with_reducible show wpAny _ _ (call (Value.builtin "str.upper") [Value.str _ _]) _ _ _); (refine upper_P (by first | assumption | exact plain_lower (by assumption) | exact plain_slice (by assumption) | exact plain_slice (plain_lower (by assumption)) | exact plain_splitLast (by assumption)) ?_)))
local macro_rules | `(tactic| size_fits) => `(tactic| exact plain_fits (by first | assumption | exact plain_lower (by assumption) | exact plain_slice (by assumption) | exact plain_slice (plain_lower (by assumption)) | exact plain_splitLast (by assumption)))
local macro_rules | `(tactic| walk_at "call builtin:len") => `(tactic| (k_here; (with_reducible show wpAny _ _ (call (Value.builtin "len") [Value.str _ _]) _ _ _); (refine len_P (by first | assumption | exact plain_lower (by assumption) | exact plain_slice (by assumption) | exact plain_slice (plain_lower (by assumption)) | exact plain_splitLast (by assumption)) ?_); intro _))
theorem c57 (w : World) (mean : ExcName → Option Value) (mg mb : Str → Option Value) (news : List (Addr × Obj)) (x : Str) (t : Tok) :
    Fn w mean mg mb 57 1 news (plainStr x) [.str x t] (fun _ => .bool (!mFig x)) := by
  dsimp only [Fn, FnTells, CbRet]
  w_top off
  k_fill
  intros; rename_i hpl _ _ hret
  skip
  refine wpAny_call ?_
  k_dflt cell_enter
  k_steps
  all_goals (unfold mFig at hret)
  all_goals cb_end hret
end Mine
namespace Mine
local macro_rules | `(tactic| walk_at "getMethod ref") => `(tactic| (k_here; (with_reducible show wpAny _ _ (getMethod (Value.ref _) (Str.ofString "search") _) _ _ _); (refine' get_search ?F ?X ?e ?c ?d ?_; (case F => k_asm); (case X => k_asm); (case e => k_is); (case c => rfl); (case d => rfl))))
local macro_rules | `(tactic| walk_at "call builtin:re.Pattern.search") => `(tactic| (k_here; focus (refine' search_K ?F ?N ?X ?eP ?hPc ?hPd ?eC ?hCd ?hx ?_ ?_; (case F => k_asm); (case N => k_asm); (case X => k_asm); (case eP => k_is); (case hPc => rfl); (case hPd => rfl); (case eC => k_is); (case hCd => rfl); (case hx => assumption); all_goals (first | (intro hfig aM hM FM NM MM) | intro hfig))))
local macro_rules | `(tactic| walk_at "truthy ref") => `(tactic| (k_here; (refine' truthy_match ?hm ?_; (case hm => assumption))))
local macro_rules | `(tactic| walk_at "call builtin:str.lower") => `(tactic| (k_here; (with_reducible show wpAny _ _ (call (Value.builtin "str.lower") [Value.str _ _]) _ _ _); (refine lower_P (by first | assumption | exact plain_lower (by assumption) | exact plain_slice (by assumption) | exact plain_slice (plain_lower (by assumption)) | exact plain_splitLast (by assumption)) ?_)))
local macro_rules | `(tactic| walk_at "call builtin:str.upper") => `(tactic| (k_here; (with_reducible show wpAny _ _ (call (Value.builtin "str.upper") [Value.str _ _]) _ _ _); (refine upper_P (by first | assumption | exact plain_lower (by assumption) | exact plain_slice (by assumption) | exact plain_slice (plain_lower (by assumption)) | exact plain_splitLast (by assumption)) ?_)))
local macro_rules | `(tactic| size_fits) => `(tactic| exact plain_fits (by first | assumption | exact plain_lower (by assumption) | exact plain_slice (by assumption) | exact plain_slice (plain_lower (by assumption)) | exact plain_splitLast (by assumption)))
local macro_rules | `(tactic| walk_at "call builtin:len") => `(tactic| (k_here; (with_reducible show wpAny _ _ (call (Value.builtin "len") [Value.str _ _]) _ _ _); (refine len_P (by first | assumption | exact plain_lower (by assumption) | exact plain_slice (by assumption) | exact plain_slice (plain_lower (by assumption)) | exact plain_splitLast (by assumption)) ?_); intro _))
theorem c43 (w : World) (mean : ExcName → Option Value) (mg mb : Str → Option Value) (news : List (Addr × Obj)) (x : Str) (t : Tok) :
    Fn w mean mg mb 43 1 news (plainStr x) [.str x t] (fun _ => .bool (mHdn x)) := by
  dsimp only [Fn, FnTells, CbRet]
  w_top off
  k_fill
  intros; rename_i hpl _ _ hret
  skip
  refine wpAny_call ?_
  k_dflt cell_enter
  k_steps
  all_goals (unfold mHdn mFig at hret)
  all_goals cb_end hret
end Mine
namespace Mine
local macro_rules | `(tactic| walk_at "getMethod ref") => `(tactic| (k_here; (with_reducible show wpAny _ _ (getMethod (Value.ref _) (Str.ofString "search") _) _ _ _); (refine' get_search ?F ?X ?e ?c ?d ?_; (case F => k_asm); (case X => k_asm); (case e => k_is); (case c => rfl); (case d => rfl))))
local macro_rules | `(tactic| walk_at "call builtin:re.Pattern.search") => `(tactic| (k_here; focus (refine' search_K ?F ?N ?X ?eP ?hPc ?hPd ?eC ?hCd ?hx ?_ ?_; (case F => k_asm); (case N => k_asm); (case X => k_asm); (case eP => k_is); (case hPc => rfl); (case hPd => rfl); (case eC => k_is); (case hCd => rfl); (case hx => assumption); all_goals (first | (intro hfig aM hM FM NM MM) | intro hfig))))
local macro_rules | `(tactic| walk_at "truthy ref") => `(tactic| (k_here; (refine' truthy_match ?hm ?_; (case hm => assumption))))
local macro_rules | `(tactic| walk_at "call builtin:str.lower") => `(tactic| (k_here; (with_reducible show wpAny _ _ (call (Value.builtin "str.lower") [Value.str _ _]) _ _ _); (refine lower_P (by first | assumption | exact plain_lower (by assumption) | exact plain_slice (by assumption) | exact plain_slice (plain_lower (by assumption)) | exact plain_splitLast (by assumption)) ?_)))
local macro_rules | `(tactic| walk_at "call builtin:str.upper") => `(tactic| (k_here; (with_reducible show wpAny _ _ (call (Value.builtin "str.upper") [Value.str _ _]) _ _ _); (refine upper_P (by first | assumption | exact plain_lower (by assumption) | exact plain_slice (by assumption) | exact plain_slice (plain_lower (by assumption)) | exact plain_splitLast (by assumption)) ?_)))
local macro_rules | `(tactic| size_fits) => `(tactic| exact plain_fits (by first | assumption | exact plain_lower (by assumption) | exact plain_slice (by assumption) | exact plain_slice (plain_lower (by assumption)) | exact plain_splitLast (by assumption)))
local macro_rules | `(tactic| walk_at "call builtin:len") => `(tactic| (k_here; (with_reducible show wpAny _ _ (call (Value.builtin "len") [Value.str _ _]) _ _ _); (refine len_P (by first | assumption | exact plain_lower (by assumption) | exact plain_slice (by assumption) | exact plain_slice (plain_lower (by assumption)) | exact plain_splitLast (by assumption)) ?_); intro _))
local macro_rules | `(tactic| walk_at "call ref") => `(tactic| (k_here; (with_reducible show wpAny _ _ (call (Value.ref 43) _) _ _ _); k_dflt (refine' use_of (c43 _ _ _ _ _ _ _) ?k1 ?k2 ?k3 ?k4 ?k5 ?kK ?kp ?kd ?ku ?_; (case k1 => k_asm); (case k2 => k_asm); (case k3 => k_asm); (case k4 => k_asm); (case k5 => k_asm); (case kK => first | exact rfl | assumption); (case kp => first | assumption | exact plain_lower (by assumption) | exact plain_slice (by assumption) | exact plain_slice (plain_lower (by assumption)) | exact plain_splitLast (by assumption)); (case kd => ktr_room); (case ku => ktr_units)); intro t9 h9 tk9 F9 N9; (try dsimp only); (try k_fold)))
local macro_rules | `(tactic| walk_at "call ref") => `(tactic| (k_here; (with_reducible show wpAny _ _ (call (Value.ref 57) _) _ _ _); k_dflt (refine' use_of (c57 _ _ _ _ _ _ _) ?k1 ?k2 ?k3 ?k4 ?k5 ?kK ?kp ?kd ?ku ?_; (case k1 => k_asm); (case k2 => k_asm); (case k3 => k_asm); (case k4 => k_asm); (case k5 => k_asm); (case kK => first | exact rfl | assumption); (case kp => first | assumption | exact plain_lower (by assumption) | exact plain_slice (by assumption) | exact plain_slice (plain_lower (by assumption)) | exact plain_splitLast (by assumption)); (case kd => ktr_room); (case ku => ktr_units)); intro t9 h9 tk9 F9 N9; (try dsimp only); (try k_fold)))
theorem c50 (w : World) (mean : ExcName → Option Value) (mg mb : Str → Option Value) (news : List (Addr × Obj)) (x y : Str) (t u : Tok) :
    Fn w mean mg mb 50 2 news (plainStr x ∧ plainStr y) [.str x t, .str y u] (fun _ => .bool (mDm x y)) := by
  dsimp only [Fn, FnTells, CbRet]
  w_top off
  k_fill
  intros; rename_i hpl _ _ hret
  obtain ⟨hplx, hply⟩ := hpl
  refine wpAny_call ?_
  k_dflt cell_enter
  k_steps
  all_goals (unfold mDm at hret)
  all_goals cb_end hret
end Mine
namespace Mine
local macro_rules | `(tactic| walk_at "getMethod ref") => `(tactic| (k_here; (with_reducible show wpAny _ _ (getMethod (Value.ref _) (Str.ofString "search") _) _ _ _); (refine' get_search ?F ?X ?e ?c ?d ?_; (case F => k_asm); (case X => k_asm); (case e => k_is); (case c => rfl); (case d => rfl))))
local macro_rules | `(tactic| walk_at "call builtin:re.Pattern.search") => `(tactic| (k_here; focus (refine' search_K ?F ?N ?X ?eP ?hPc ?hPd ?eC ?hCd ?hx ?_ ?_; (case F => k_asm); (case N => k_asm); (case X => k_asm); (case eP => k_is); (case hPc => rfl); (case hPd => rfl); (case eC => k_is); (case hCd => rfl); (case hx => assumption); all_goals (first | (intro hfig aM hM FM NM MM) | intro hfig))))
local macro_rules | `(tactic| walk_at "truthy ref") => `(tactic| (k_here; (refine' truthy_match ?hm ?_; (case hm => assumption))))
local macro_rules | `(tactic| walk_at "call builtin:str.lower") => `(tactic| (k_here; (with_reducible show wpAny _ _ (call (Value.builtin "str.lower") [Value.str _ _]) _ _ _); (refine lower_P (by first | assumption | exact plain_lower (by assumption) | exact plain_slice (by assumption) | exact plain_slice (plain_lower (by assumption)) | exact plain_splitLast (by assumption)) ?_)))
local macro_rules | `(tactic| walk_at "call builtin:str.upper") => `(tactic| (k_here; (with_reducible show wpAny _ _ (call (Value.builtin "str.upper") [Value.str _ _]) _ _ _); (refine upper_P (by first | assumption | exact plain_lower (by assumption) | exact plain_slice (by assumption) | exact plain_slice (plain_lower (by assumption)) | exact plain_splitLast (by assumption)) ?_)))
local macro_rules | `(tactic| size_fits) => `(tactic| exact plain_fits (by first | assumption | exact plain_lower (by assumption) | exact plain_slice (by assumption) | exact plain_slice (plain_lower (by assumption)) | exact plain_splitLast (by assumption)))
local macro_rules | `(tactic| walk_at "call builtin:len") => `(tactic| (k_here; (with_reducible show wpAny _ _ (call (Value.builtin "len") [Value.str _ _]) _ _ _); (refine len_P (by first | assumption | exact plain_lower (by assumption) | exact plain_slice (by assumption) | exact plain_slice (plain_lower (by assumption)) | exact plain_splitLast (by assumption)) ?_); intro _))
local macro_rules | `(tactic| walk_at "call ref") => `(tactic| (k_here; (with_reducible show wpAny _ _ (call (Value.ref 43) _) _ _ _); k_dflt (refine' use_of (c43 _ _ _ _ _ _ _) ?k1 ?k2 ?k3 ?k4 ?k5 ?kK ?kp ?kd ?ku ?_; (case k1 => k_asm); (case k2 => k_asm); (case k3 => k_asm); (case k4 => k_asm); (case k5 => k_asm); (case kK => first | exact rfl | assumption); (case kp => first | assumption | exact plain_lower (by assumption) | exact plain_slice (by assumption) | exact plain_slice (plain_lower (by assumption)) | exact plain_splitLast (by assumption)); (case kd => ktr_room); (case ku => ktr_units)); intro t9 h9 tk9 F9 N9; (try dsimp only); (try k_fold)))
local macro_rules | `(tactic| walk_at "call ref") => `(tactic| (k_here; (with_reducible show wpAny _ _ (call (Value.ref 57) _) _ _ _); k_dflt (refine' use_of (c57 _ _ _ _ _ _ _) ?k1 ?k2 ?k3 ?k4 ?k5 ?kK ?kp ?kd ?ku ?_; (case k1 => k_asm); (case k2 => k_asm); (case k3 => k_asm); (case k4 => k_asm); (case k5 => k_asm); (case kK => first | exact rfl | assumption); (case kp => first | assumption | exact plain_lower (by assumption) | exact plain_slice (by assumption) | exact plain_slice (plain_lower (by assumption)) | exact plain_splitLast (by assumption)); (case kd => ktr_room); (case ku => ktr_units)); intro t9 h9 tk9 F9 N9; (try dsimp only); (try k_fold)))
theorem c64 (w : World) (mean : ExcName → Option Value) (mg mb : Str → Option Value) (news : List (Addr × Obj)) (x y : Str) (t u : Tok) :
    Fn w mean mg mb 64 2 news (plainStr x ∧ plainStr y) [.str x t, .str y u] (fun _ => .bool (mUdm x y)) := by
  dsimp only [Fn, FnTells, CbRet]
  w_top off
  k_fill
  intros; rename_i hpl _ _ hret
  obtain ⟨hplx, hply⟩ := hpl
  refine wpAny_call ?_
  k_dflt cell_enter
  k_steps
  all_goals (unfold mUdm at hret)
  all_goals cb_end hret
end Mine
namespace Mine
local macro_rules | `(tactic| walk_at "getMethod ref") => `(tactic| (k_here; (with_reducible show wpAny _ _ (getMethod (Value.ref _) (Str.ofString "search") _) _ _ _); (refine' get_search ?F ?X ?e ?c ?d ?_; (case F => k_asm); (case X => k_asm); (case e => k_is); (case c => rfl); (case d => rfl))))
local macro_rules | `(tactic| walk_at "call builtin:re.Pattern.search") => `(tactic| (k_here; focus (refine' search_K ?F ?N ?X ?eP ?hPc ?hPd ?eC ?hCd ?hx ?_ ?_; (case F => k_asm); (case N => k_asm); (case X => k_asm); (case eP => k_is); (case hPc => rfl); (case hPd => rfl); (case eC => k_is); (case hCd => rfl); (case hx => assumption); all_goals (first | (intro hfig aM hM FM NM MM) | intro hfig))))
local macro_rules | `(tactic| walk_at "truthy ref") => `(tactic| (k_here; (refine' truthy_match ?hm ?_; (case hm => assumption))))
local macro_rules | `(tactic| walk_at "call builtin:str.lower") => `(tactic| (k_here; (with_reducible show wpAny _ _ (call (Value.builtin "str.lower") [Value.str _ _]) _ _ _); (refine lower_P (by first | assumption | exact plain_lower (by assumption) | exact plain_slice (by assumption) | exact plain_slice (plain_lower (by assumption)) | exact plain_splitLast (by assumption)) ?_)))
local macro_rules | `(tactic| walk_at "call builtin:str.upper") => `(tactic| (k_here; (with_reducible show wpAny _ _ (call (Value.builtin "str.upper") [Value.str _ _]) _ _ _); (refine upper_P (by first | assumption | exact plain_lower (by assumption) | exact plain_slice (by assumption) | exact plain_slice (plain_lower (by assumption)) | exact plain_splitLast (by assumption)) ?_)))
local macro_rules | `(tactic| size_fits) => `(tactic| exact plain_fits (by first | assumption | exact plain_lower (by assumption) | exact plain_slice (by assumption) | exact plain_slice (plain_lower (by assumption)) | exact plain_splitLast (by assumption)))
local macro_rules | `(tactic| walk_at "call builtin:len") => `(tactic| (k_here; (with_reducible show wpAny _ _ (call (Value.builtin "len") [Value.str _ _]) _ _ _); (refine len_P (by first | assumption | exact plain_lower (by assumption) | exact plain_slice (by assumption) | exact plain_slice (plain_lower (by assumption)) | exact plain_splitLast (by assumption)) ?_); intro _))
local macro_rules | `(tactic| walk_at "call builtin:str.split") => `(tactic| (k_here; (with_reducible show wpAny _ _ (call (Value.builtin "str.split") [Value.str _ _, Value.str (Str.ofString ".") _]) _ _ _); (refine' split_P ?F ?N ?hx ?_; (case F => k_asm); (case N => k_asm); (case hx => first | assumption | exact plain_lower (by assumption) | exact plain_slice (by assumption) | exact plain_slice (plain_lower (by assumption)) | exact plain_splitLast (by assumption))); intro D l h' k H' F' N' l1; (try k_lt l1)))
local macro_rules | `(tactic| walk_at "call builtin:len") => `(tactic| (k_here; (with_reducible show wpAny _ _ (call (Value.builtin "len") [Value.ref _]) _ _ _); (refine' len_SpL ?H ?N ?hm ?_; (case H => assumption); (case N => k_asm); (case hm => k_mem))))
local macro_rules | `(tactic| walk_at "subscriptTail Name BinOp ref int") => `(tactic| (k_here; (with_reducible show wpAny _ _ (subscriptTail _ _ (Value.ref _) (Value.int _ _)) _ _ _); (with_unfolding_all refine' item_SpL ?H ?N ?hm ?hk ?_; (case H => assumption); (case N => k_asm); (case hm => k_mem); (case hk => first | rfl | omega)); intro _))
local macro_rules | `(tactic| walk_at "compareOp Eq ref ref") => `(tactic| (k_here; (with_reducible show wpAny _ _ (compareOp CmpOp.Eq (Value.ref _) (Value.ref _)) _ _ _); (refine' eq_nilK ?N ?ha ?hc ?hb ?hl ?hu ?_; (case N => k_asm); (case ha => k_mem); (case hb => k_mem); (case hc => assumption); (case hl => exact signs_plain (by first | assumption | exact plain_lower (by assumption) | exact plain_slice (by assumption) | exact plain_slice (plain_lower (by assumption)) | exact plain_splitLast (by assumption))); (case hu => ((try dsimp only [ktrTop]); units_room)))))
theorem c69 (w : World) (mean : ExcName → Option Value) (mg mb : Str → Option Value) (news : List (Addr × Obj)) (x : Str) (t : Tok) :
    Fn w mean mg mb 69 12 news (plainStr x) [.str x t] (fun _ => .bool (lFig x)) := by
  dsimp only [Fn, FnTells, CbRet]
  w_top off
  k_fill
  intros; rename_i hpl _ _ hret
  skip
  refine wpAny_call ?_
  k_dflt cell_enter
  k_steps
  all_goals (unfold lFig at hret)
  all_goals cb_end hret
end Mine
namespace Mine
local macro_rules | `(tactic| walk_at "getMethod ref") => `(tactic| (k_here; (with_reducible show wpAny _ _ (getMethod (Value.ref _) (Str.ofString "search") _) _ _ _); (refine' get_search ?F ?X ?e ?c ?d ?_; (case F => k_asm); (case X => k_asm); (case e => k_is); (case c => rfl); (case d => rfl))))
local macro_rules | `(tactic| walk_at "call builtin:re.Pattern.search") => `(tactic| (k_here; focus (refine' search_K ?F ?N ?X ?eP ?hPc ?hPd ?eC ?hCd ?hx ?_ ?_; (case F => k_asm); (case N => k_asm); (case X => k_asm); (case eP => k_is); (case hPc => rfl); (case hPd => rfl); (case eC => k_is); (case hCd => rfl); (case hx => assumption); all_goals (first | (intro hfig aM hM FM NM MM) | intro hfig))))
local macro_rules | `(tactic| walk_at "truthy ref") => `(tactic| (k_here; (refine' truthy_match ?hm ?_; (case hm => assumption))))
local macro_rules | `(tactic| walk_at "call builtin:str.lower") => `(tactic| (k_here; (with_reducible show wpAny _ _ (call (Value.builtin "str.lower") [Value.str _ _]) _ _ _); (refine lower_P (by first | assumption | exact plain_lower (by assumption) | exact plain_slice (by assumption) | exact plain_slice (plain_lower (by assumption)) | exact plain_splitLast (by assumption)) ?_)))
local macro_rules | `(tactic| walk_at "call builtin:str.upper") => `(tactic| (k_here; (with_reducible show wpAny _ _ (call (Value.builtin "str.upper") [Value.str _ _]) _ _ _); (refine upper_P (by first | assumption | exact plain_lower (by assumption) | exact plain_slice (by assumption) | exact plain_slice (plain_lower (by assumption)) | exact plain_splitLast (by assumption)) ?_)))
local macro_rules | `(tactic| size_fits) => `(tactic| exact plain_fits (by first | assumption | exact plain_lower (by assumption) | exact plain_slice (by assumption) | exact plain_slice (plain_lower (by assumption)) | exact plain_splitLast (by assumption)))
local macro_rules | `(tactic| walk_at "call builtin:len") => `(tactic| (k_here; (with_reducible show wpAny _ _ (call (Value.builtin "len") [Value.str _ _]) _ _ _); (refine len_P (by first | assumption | exact plain_lower (by assumption) | exact plain_slice (by assumption) | exact plain_slice (plain_lower (by assumption)) | exact plain_splitLast (by assumption)) ?_); intro _))
local macro_rules | `(tactic| walk_at "call ref") => `(tactic| (k_here; (with_reducible show wpAny _ _ (call (Value.ref 69) _) _ _ _); k_dflt (refine' use_of (c69 _ _ _ _ _ _ _) ?k1 ?k2 ?k3 ?k4 ?k5 ?kK ?kp ?kd ?ku ?_; (case k1 => k_asm); (case k2 => k_asm); (case k3 => k_asm); (case k4 => k_asm); (case k5 => k_asm); (case kK => first | exact rfl | assumption); (case kp => first | assumption | exact plain_lower (by assumption) | exact plain_slice (by assumption) | exact plain_slice (plain_lower (by assumption)) | exact plain_splitLast (by assumption)); (case kd => ktr_room); (case ku => ktr_units)); intro t9 h9 tk9 F9 N9; (try dsimp only); (try k_fold)))
theorem c76 (w : World) (mean : ExcName → Option Value) (mg mb : Str → Option Value) (news : List (Addr × Obj)) (x : Str) (t : Tok) :
    Fn w mean mg mb 76 14 news (plainStr x) [.str x t] (fun _ => .bool (lName x)) := by
  dsimp only [Fn, FnTells, CbRet]
  w_top off
  k_fill
  intros; rename_i hpl _ _ hret
  skip
  refine wpAny_call ?_
  k_dflt cell_enter
  k_steps
  all_goals (unfold lName at hret)
  all_goals cb_end hret
end Mine
namespace Mine
local macro_rules | `(tactic| walk_at "getMethod ref") => `(tactic| (k_here; (with_reducible show wpAny _ _ (getMethod (Value.ref _) (Str.ofString "search") _) _ _ _); (refine' get_search ?F ?X ?e ?c ?d ?_; (case F => k_asm); (case X => k_asm); (case e => k_is); (case c => rfl); (case d => rfl))))
local macro_rules | `(tactic| walk_at "call builtin:re.Pattern.search") => `(tactic| (k_here; focus (refine' search_K ?F ?N ?X ?eP ?hPc ?hPd ?eC ?hCd ?hx ?_ ?_; (case F => k_asm); (case N => k_asm); (case X => k_asm); (case eP => k_is); (case hPc => rfl); (case hPd => rfl); (case eC => k_is); (case hCd => rfl); (case hx => assumption); all_goals (first | (intro hfig aM hM FM NM MM) | intro hfig))))
local macro_rules | `(tactic| walk_at "truthy ref") => `(tactic| (k_here; (refine' truthy_match ?hm ?_; (case hm => assumption))))
local macro_rules | `(tactic| walk_at "call builtin:str.lower") => `(tactic| (k_here; (with_reducible show wpAny _ _ (call (Value.builtin "str.lower") [Value.str _ _]) _ _ _); (refine lower_P (by first | assumption | exact plain_lower (by assumption) | exact plain_slice (by assumption) | exact plain_slice (plain_lower (by assumption)) | exact plain_splitLast (by assumption)) ?_)))
local macro_rules | `(tactic| walk_at "call builtin:str.upper") => `(tactic| (k_here; (with_reducible show wpAny _ _ (call (Value.builtin "str.upper") [Value.str _ _]) _ _ _); (refine upper_P (by first | assumption | exact plain_lower (by assumption) | exact plain_slice (by assumption) | exact plain_slice (plain_lower (by assumption)) | exact plain_splitLast (by assumption)) ?_)))
local macro_rules | `(tactic| size_fits) => `(tactic| exact plain_fits (by first | assumption | exact plain_lower (by assumption) | exact plain_slice (by assumption) | exact plain_slice (plain_lower (by assumption)) | exact plain_splitLast (by assumption)))
local macro_rules | `(tactic| walk_at "call builtin:len") => `(tactic| (k_here; (with_reducible show wpAny _ _ (call (Value.builtin "len") [Value.str _ _]) _ _ _); (refine len_P (by first | assumption | exact plain_lower (by assumption) | exact plain_slice (by assumption) | exact plain_slice (plain_lower (by assumption)) | exact plain_splitLast (by assumption)) ?_); intro _))
local macro_rules | `(tactic| walk_at "CompSrcT") => `(tactic| (k_here; k_dflt (refine' spots_src ?pm ?hx ?hh ?F ?N ?hr ?hb ?_ ?_; (case pm => assumption); (case hx => assumption); (case hh => exact rfl); (case F => k_asm); (case N => k_asm); (case hr => assumption); (case hb => first | exact rfl | omega)); focus all_goals (first | (intro g' k' t' I' oI' C' oC' D' m' ys' h' tk' E' hlo' hhi' hC' hx' F' N' off' ne'; (try dsimp only); (try k_fold)) | (intro g' ys' hI'))))
local macro_rules | `(tactic| walk_at "CompEnd") => `(tactic| (k_dflt (first
  | (refine' pick_yes ?F ?N ?off ?hS ?hp ?hV; (case F => k_asm); (case N => k_asm); (case off => assumption); (case hS => exact trivial); (case hp => with_unfolding_all assumption); (case hV => exact ⟨_, rfl⟩))
  | (refine' pick_no ?F ?N ?off ?hS ?hp; (case F => k_asm); (case N => k_asm); (case off => assumption); (case hS => exact trivial); (case hp => with_unfolding_all assumption)))))
local macro_rules | `(tactic| walk_at "call builtin:len") => `(tactic| (k_here; (with_reducible show wpAny _ _ (call (Value.builtin "len") [Value.ref _]) _ _ _); (refine' len_spots ?hx ?hI ?N ?hm ?_; (case hI => assumption); (case hx => assumption); (case N => k_asm); (case hm => k_mem))))
local macro_rules | `(tactic| walk_at "subscriptTail Name BinOp ref int") => `(tactic| (k_here; (with_reducible show wpAny _ _ (subscriptTail _ _ (Value.ref _) (Value.int _ _)) _ _ _); (with_unfolding_all refine' item_spots ?hx ?hI ?N ?hm ?hk ?hne ?_; (case hI => assumption); (case hx => assumption); (case N => k_asm); (case hm => k_mem); (case hk => first | rfl | omega); (case hne => first | assumption | simp_all)); intro _))
local macro_rules | `(tactic| walk_at "call ref") => `(tactic| (k_here; (with_reducible show wpAny _ _ (call (Value.ref 76) _) _ _ _); k_dflt (refine' use_of (c76 _ _ _ _ _ _ _) ?k1 ?k2 ?k3 ?k4 ?k5 ?kK ?kp ?kd ?ku ?_; (case k1 => k_asm); (case k2 => k_asm); (case k3 => k_asm); (case k4 => k_asm); (case k5 => k_asm); (case kK => first | exact rfl | assumption); (case kp => first | assumption | exact plain_lower (by assumption) | exact plain_slice (by assumption) | exact plain_slice (plain_lower (by assumption)) | exact plain_splitLast (by assumption)); (case kd => ktr_room); (case ku => ktr_units)); intro t9 h9 tk9 F9 N9; (try dsimp only); (try k_fold)))
theorem c81 (w : World) (mean : ExcName → Option Value) (mg mb : Str → Option Value) (news : List (Addr × Obj)) (x y : Str) (t u : Tok) :
    Fn w mean mg mb 81 26 news (plainStr x ∧ plainStr y) [.str x t, .str y u] (fun _ => .bool (lMatch x y)) := by
  dsimp only [Fn, FnTells, CbRet]
  w_top off
  k_fill
  intros; rename_i hpl _ _ hret
  obtain ⟨hplx, hply⟩ := hpl
  have pm : PairMark x y := PairMark.mk
  refine wpAny_call ?_
  k_dflt (refine' code_defC ?k1 ?k2 ?k3 ?k4 ?k5 ?kA ?kF ?kK ?k6 ?k7 ?k8 ?k9 ?kB ?kD ?_ ?c2 ?c3 ?c4; (case kA => exact rfl); (case kF => exact rfl); (case kK => assumption); (case k1 => k_asm); (case k2 => k_asm); (case k3 => k_asm); (case k4 => k_asm); (case k5 => k_asm); (case k6 => k_is); (case k7 => k_is); (case k8 => ktr_room); (case k9 => exact BindsTo.of_eq rfl); (case kB => exact rfl); (case kD => decide +kernel); (case c2 => exact rfl); (case c3 => exact rfl); (case c4 => exact rfl); k_whole; intro g' L' h' tk' cells' FG' F' N' Y' B' X' T' l1; (try k_lt l1); k_cells Y'; (try simp only [List.cons_append, List.nil_append] at N'); (try dsimp only); (try k_lift B'); (try k_fold))
  k_steps
  all_goals (unfold lMatch at hret)
  all_goals cb_end hret
end Mine
namespace Mine
open Builtin Builtin.Str
abbrev Lx (x : Str) : List Nat := x.cps.toList
theorem Lx_len (x : Str) : (Lx x).length = x.length := Array.length_toList
theorem str_ext {x y : Str} (h : Lx x = Lx y) : x = y := PySem.Str.ext' (Array.toList_inj.mp h)
theorem beq_iff {x y : Str} : (x == y) = true ↔ Lx x = Lx y := ⟨fun h => by rw [beq_iff_eq.mp h], fun h => beq_iff_eq.mpr (str_ext h)⟩
theorem pick_range (l : List Nat) (a : Nat) : ∀ k, a + k ≤ l.length → ((List.range k).map (a + ·)).filterMap (l[·]?) = (l.drop a).take k
  | 0, _ => by simp
  | k + 1, h => by
    have hlt : a + k < l.length := by omega
    rw [List.range_succ, List.map_append, List.filterMap_append, pick_range l a k (by omega), List.take_add_one, List.getElem?_drop]
    simp [List.getElem?_eq_getElem hlt]
theorem slice_of {x : Str} {lo hi : Option Int} {a b : Nat} (hi' : strSliceIndices lo hi 1 x.length = (List.range (b - a)).map (a + ·)) (hb : b ≤ x.length) (ha : a ≤ b ∨ b ≤ a) :
    Lx (Txt.slice x lo hi) = ((Lx x).drop a).take (b - a) := by
  have hl := Lx_len x
  unfold Txt.slice
  rw [hi']
  split
  · rename_i hc
    have hc' : b - a = x.length := by simpa using hc
    rw [← hl] at hc' hb
    have : a = 0 ∨ (Lx x).length = 0 := by omega
    rcases this with rfl | h0
    · rw [List.drop_zero, List.take_of_length_le (by omega)]
    · have : Lx x = [] := List.length_eq_zero_iff.mp h0
      rw [this]; simp
  · have e : (fun i => x.cps[i]?) = fun i => (Lx x)[i]? := funext fun i => (Array.getElem?_toList ..).symm
    show ((List.range (b - a)).map (a + ·)).filterMap (fun i => x.cps[i]?) = _
    rw [e]
    rcases Nat.le_total a b with h | h
    · exact pick_range _ _ _ (by rw [hl]; omega)
    · have z : b - a = 0 := Nat.sub_eq_zero_of_le h
      rw [z]; simp
theorem ind_ss (n a b : Nat) : strSliceIndices (some (a : Int)) (some (b : Int)) 1 n = (List.range (min b n - min a n)).map (min a n + ·) := by
  have e1 : (max 0 (min (a : Int) (n : Int))) = ((min a n : Nat) : Int) := by omega
  have e2 : (max 0 (min (b : Int) (n : Int))) = ((min b n : Nat) : Int) := by omega
  unfold strSliceIndices
  simp only [show (1 : Int) > 0 by decide, if_true, show ¬ ((a : Int) < 0) by omega, show ¬ ((b : Int) < 0) by omega, if_false, e1, e2]
  exact sliceRange_one _ _
theorem ind_sn (n a : Nat) : strSliceIndices (some (a : Int)) none 1 n = (List.range (n - min a n)).map (min a n + ·) := by
  have e1 : (max 0 (min (a : Int) (n : Int))) = ((min a n : Nat) : Int) := by omega
  unfold strSliceIndices
  simp only [show (1 : Int) > 0 by decide, if_true, show ¬ ((a : Int) < 0) by omega, if_false, e1]
  exact sliceRange_one _ _
theorem ind_ns (n b : Nat) : strSliceIndices none (some (b : Int)) 1 n = (List.range (min b n - 0)).map (0 + ·) := by
  have e2 : (max 0 (min (b : Int) (n : Int))) = ((min b n : Nat) : Int) := by omega
  unfold strSliceIndices
  simp only [show (1 : Int) > 0 by decide, if_true, show ¬ ((b : Int) < 0) by omega, if_false, e2]
  exact sliceRange_one 0 _
theorem slice_ss (x : Str) (a b : Nat) : Lx (Txt.slice x (some (a : Int)) (some (b : Int))) = ((Lx x).drop a).take (b - a) := by
  have hl := Lx_len x
  rw [slice_of (ind_ss _ _ _) (Nat.min_le_right _ _) (Nat.le_total _ _)]
  rcases Nat.lt_or_ge (Lx x).length a with h | h
  · rw [List.drop_eq_nil_of_le (by omega : (Lx x).length ≤ a), List.drop_eq_nil_of_le (by omega : (Lx x).length ≤ min a x.length)]; simp
  · rw [Nat.min_eq_left (by omega : a ≤ x.length)]
    rcases Nat.lt_or_ge x.length b with h2 | h2
    · rw [Nat.min_eq_right (by omega), List.take_of_length_le (by rw [List.length_drop]; omega), List.take_of_length_le (by rw [List.length_drop]; omega)]
    · rw [Nat.min_eq_left h2]
theorem slice_sn (x : Str) (a : Nat) : Lx (Txt.slice x (some (a : Int)) none) = (Lx x).drop a := by
  have hl := Lx_len x
  rw [slice_of (b := x.length) (ind_sn _ _) (Nat.le_refl _) (Nat.le_total _ _)]
  rcases Nat.lt_or_ge (Lx x).length a with h | h
  · rw [List.drop_eq_nil_of_le (by omega : (Lx x).length ≤ a), List.drop_eq_nil_of_le (by omega : (Lx x).length ≤ min a x.length)]; simp
  · rw [Nat.min_eq_left (by omega : a ≤ x.length), List.take_of_length_le (by rw [List.length_drop]; omega)]
theorem slice_ns (x : Str) (b : Nat) : Lx (Txt.slice x none (some (b : Int))) = (Lx x).take b := by
  have hl := Lx_len x
  rw [slice_of (ind_ns _ _) (Nat.min_le_right _ _) (Nat.le_total _ _), List.drop_zero, Nat.sub_zero]
  rcases Nat.lt_or_ge x.length b with h | h
  · rw [Nat.min_eq_right (by omega), List.take_of_length_le (by omega), List.take_of_length_le (by omega)]
  · rw [Nat.min_eq_left h]

/-! the figures -/
theorem figsL_iff : ∀ l : List Nat, figsL l = true ↔ ∃ q r, l = q ++ 46 :: r ∧ r ≠ [] ∧ r.all Sre.isDigit = true
  | [] => ⟨fun h => (nomatch h), fun ⟨q, r, e, _⟩ => by simp at e⟩
  | c :: l => by
    have ih := figsL_iff l
    show ((c == 46 && !l.isEmpty && l.all Sre.isDigit) || figsL l) = true ↔ _
    rw [Bool.or_eq_true]
    constructor
    · rintro (h | h)
      · simp only [Bool.and_eq_true, beq_iff_eq, Bool.not_eq_true', List.isEmpty_eq_false_iff] at h
        exact ⟨[], l, by rw [h.1.1]; rfl, h.1.2, h.2⟩
      · obtain ⟨q, r, e, h1, h2⟩ := ih.mp h
        exact ⟨c :: q, r, by rw [e]; rfl, h1, h2⟩
    · rintro ⟨q, r, e, h1, h2⟩
      cases q with
      | nil =>
        rw [List.nil_append, List.cons.injEq] at e
        obtain ⟨rfl, rfl⟩ := e
        refine .inl ?_
        simp [h1]
        exact List.all_eq_true.mp h2
      | cons d q =>
        rw [List.cons_append, List.cons.injEq] at e
        exact .inr (ih.mpr ⟨q, r, e.2, h1, h2⟩)
theorem digit_not_dot {r : List Nat} (h : r.all Sre.isDigit = true) : 46 ∉ r := fun hm => by
  have := List.all_eq_true.mp h 46 hm
  exact absurd this (by decide)
theorem last_tail {q r q' r' : List Nat} (h : q ++ 46 :: r = q' ++ 46 :: r') (hr : 46 ∉ r) (hr' : 46 ∉ r') : r = r' := by
  have tail : ∀ (q r : List Nat), 46 ∉ r → ((q ++ 46 :: r).reverse.takeWhile (· != 46)) = r.reverse := by
    intro q r hr
    rw [List.reverse_append, List.reverse_cons, List.append_assoc, List.takeWhile_append_of_pos (by
      intro a ha
      have : a ≠ 46 := fun e => hr (e ▸ List.mem_reverse.mp ha)
      simpa using this)]
    simp
  have h1 := tail q r hr
  rw [h, tail q' r' hr'] at h1
  exact (List.reverse_inj.mp h1).symm

theorem digits_is : ∀ c : Nat, (c ∈ Lx (Str.ofString "0123456789")) ↔ Sre.isDigit c = true := by
  intro c
  have e : Lx (Str.ofString "0123456789") = [48, 49, 50, 51, 52, 53, 54, 55, 56, 57] := by decide +kernel
  rw [e]
  unfold Sre.isDigit
  simp only [List.mem_cons, List.not_mem_nil, or_false, Bool.and_eq_true, decide_eq_true_eq]
  omega
theorem signs_digits (y : Str) : ((signs y).filter fun a => !!(occurrences (Str.ofString "0123456789") a 0 (Str.ofString "0123456789").length 1).isEmpty).isEmpty = (Lx y).all Sre.isDigit := by
  unfold signs
  show (((Lx y).map fun n => (⟨#[n]⟩ : Str)).filter _).isEmpty = _
  induction Lx y with
  | nil => rfl
  | cons c l ih =>
    have e : (!!(occurrences (Str.ofString "0123456789") ⟨#[c]⟩ 0 (Str.ofString "0123456789").length 1).isEmpty) = !Sre.isDigit c := by
      rw [StrLaws.found_one]
      congr 1
      rw [Bool.eq_iff_iff, decide_eq_true_eq]
      exact digits_is c
    rw [List.map_cons, List.filter_cons, e, List.all_cons]
    cases Sre.isDigit c with
    | true => simpa using ih
    | false => rfl
theorem lFig_eq (x : Str) : lFig x = mFig x := by
  obtain ⟨pre, e, hno, hsh⟩ := split_shape x
  unfold lFig mFig
  rw [signs_digits, Bool.eq_iff_iff, figsL_iff]
  simp only [Bool.and_eq_true, decide_eq_true_eq, bne_iff_ne]
  constructor
  · rintro ⟨⟨h1, h2⟩, h3⟩
    rcases hsh with ⟨hs, _⟩ | ⟨_, q, rfl⟩
    · omega
    · refine ⟨q, Lx (splitLast x), by rw [e]; simp, fun h => h2 ?_, h3⟩
      exact str_ext (h.trans (by decide +kernel))
  · rintro ⟨q, r, hx, hne, hd⟩
    rcases hsh with ⟨_, rfl⟩ | ⟨hs, q', rfl⟩
    · rw [List.nil_append] at e
      exact absurd (by rw [← e, hx]; simp) hno
    · have hr : r = Lx (splitLast x) := last_tail (q := q) (q' := q') (by rw [← hx, e]; simp) (digit_not_dot hd) hno
      refine ⟨⟨by omega, fun h => hne ?_⟩, hr ▸ hd⟩
      rw [hr, h]; decide +kernel
theorem item_last {x : Str} (h : 1 ≤ x.length) : Txt.item x ((x.length : Int) - 1) = Txt.item x (-1) := by
  unfold Txt.item Txt.charAt
  have : seqIndex? ((x.length : Int) - 1) x.length = seqIndex? (-1) x.length := by
    unfold seqIndex?
    simp only [if_neg (show ¬ ((x.length : Int) - 1 < 0) by omega), if_pos (show (-1 : Int) < 0 by decide), show (-1 : Int) + (x.length : Int) = (x.length : Int) - 1 by omega]
  rw [this]
theorem lName_eq (x : Str) : lName x = mHdn x := by
  unfold lName mHdn
  rw [lFig_eq]
  cases h : (x == Str.ofString "") with
  | true => simp [bne, h]
  | false =>
    rw [item_last]
    · simp only [bne, h]
    · rcases Nat.eq_zero_or_pos x.length with h0 | h0
      · have : Lx x = [] := List.length_eq_zero_iff.mp ((Lx_len x).trans h0)
        have h2 : (x == Str.ofString "") = true := beq_iff.mpr (this.trans (by decide +kernel))
        rw [h] at h2; cases h2
      · exact h0

/-! where one text is found in another -/
theorem subAt_L (x y : Str) (i : Nat) : subAt x y i = true ↔ ((Lx x).drop i).take y.length = Lx y := by
  rw [StrLaws.subAt_eq, beq_iff_eq]
theorem spot_iff {x y : Str} {k : Nat} (hk : k ≤ x.length) : spotP x y (k : Int) = true ↔ StrLaws.At x y x.length k := by
  unfold spotP StrLaws.At
  rw [beq_iff, subAt_L, show ((k : Int) + (y.length : Int)) = ((k + y.length : Nat) : Int) by omega, slice_ss, Nat.add_sub_cancel_left]
  have h1 := Lx_len x
  have h2 := Lx_len y
  constructor
  · intro h
    refine ⟨?_, h⟩
    have := congrArg List.length h
    rw [List.length_take, List.length_drop] at this
    omega
  · exact fun h => h.2
theorem spots_mem {x y : Str} {k : Int} : k ∈ spotsL x y ↔ ∃ i : Nat, k = (i : Int) ∧ StrLaws.At x y x.length i := by
  unfold spotsL
  rw [List.mem_filter]
  constructor
  · rintro ⟨hm, hp⟩
    have h1 := mem_rangeKs hm
    obtain ⟨i, rfl⟩ := Int.eq_ofNat_of_zero_le h1.1
    exact ⟨i, rfl, (spot_iff (by omega)).mp hp⟩
  · rintro ⟨i, rfl, hA⟩
    have h1 : i + y.length ≤ x.length := hA.1
    refine ⟨?_, (spot_iff (by omega)).mpr hA⟩
    unfold rangeKs
    exact List.mem_map.mpr ⟨i, List.mem_range.mpr (by omega), by omega⟩
theorem spots_sorted (x y : Str) : (spotsL x y).Pairwise (· < ·) := by
  unfold spotsL
  refine List.Pairwise.filter _ ?_
  unfold rangeKs
  rw [List.pairwise_map]
  exact List.Pairwise.imp (fun h => by omega) List.pairwise_lt_range
theorem last_max : ∀ {l : List Int}, l.Pairwise (· < ·) → ∀ {a : Int}, a ∈ l → (∀ b ∈ l, b ≤ a) → l.getLastD 0 = a
  | [], _, a, h, _ => nomatch h
  | [b], _, a, h, _ => by rw [List.mem_singleton] at h; rw [h]; rfl
  | b :: c :: l, hp, a, h, hm => by
    have hp' := List.pairwise_cons.mp hp
    show (c :: l).getLastD 0 = a
    refine last_max hp'.2 ?_ fun d hd => hm d (List.mem_cons_of_mem _ hd)
    rcases List.mem_cons.mp h with rfl | h
    · have h1 := hp'.1 c (List.mem_cons_self ..)
      have h2 := hm c (List.mem_cons_of_mem _ (List.mem_cons_self ..))
      omega
    · exact h
theorem rfind_spots (x y : Str) : (decide (spotsL x y = []) || (spotsL x y).getLastD 0 == 0) = (Txt.rfind x y == -1 || Txt.rfind x y == 0) := by
  unfold Txt.rfind
  rcases StrLaws.last_spec x y with ⟨e, h⟩ | ⟨i, e, hA, hm⟩
  · have : spotsL x y = [] := List.eq_nil_iff_forall_not_mem.mpr fun k hk => by
      obtain ⟨i, _, hA⟩ := spots_mem.mp hk
      exact h i hA
    rw [e, this]; rfl
  · have hmem : (i : Int) ∈ spotsL x y := spots_mem.mpr ⟨i, rfl, hA⟩
    have hl : (spotsL x y).getLastD 0 = (i : Int) := last_max (spots_sorted x y) hmem fun b hb => by
      obtain ⟨j, rfl, hB⟩ := spots_mem.mp hb
      rcases Nat.lt_or_ge i j with hlt | hge
      · exact absurd hB (hm j hlt)
      · omega
    have hne : spotsL x y ≠ [] := List.ne_nil_of_mem hmem
    rw [e, hl]
    simp [hne]
theorem dot_L : Lx (Str.ofString ".") = [46] := by decide +kernel
theorem starts_dot (y : Str) : (Txt.slice y none (some 1) == Str.ofString ".") = Txt.startswith y (Str.ofString ".") := by
  unfold Txt.startswith
  have h1 := Lx_len y
  have h2 : (Str.ofString ".").length = 1 := by decide +kernel
  rw [Bool.eq_iff_iff, beq_iff, Bool.and_eq_true, subAt_L, h2, decide_eq_true_eq, show (1 : Int) = ((1 : Nat) : Int) from rfl, slice_ns, List.drop_zero, dot_L]
  constructor
  · intro h
    refine ⟨?_, h⟩
    have h3 := congrArg List.length h
    rw [List.length_take] at h3
    have h4 : min 1 (Lx y).length = 1 := h3
    omega
  · exact fun h => h.2
theorem lMatch_eq (A B : Str) : lMatch (Txt.lower A) (Txt.lower B) = mDm A B := by
  unfold lMatch mDm
  rw [Bool.or_assoc, rfind_spots, starts_dot, lName_eq, lName_eq]
  cases (Txt.lower A == Txt.lower B) <;> cases mHdn (Txt.lower A) <;> cases (Txt.rfind (Txt.lower A) (Txt.lower B) == -1 || Txt.rfind (Txt.lower A) (Txt.lower B) == 0) <;> cases Txt.startswith (Txt.lower B) (Str.ofString ".") <;> simp
end Mine
namespace Mine
open Builtin Builtin.Str
def shortStr (n : Nat) (x : Str) : Prop := x.cps.size ≤ n ∧ ∀ c ∈ x.cps.toList, c < 128 ∧ c ≠ 10
theorem shortStr.plain {n : Nat} {x : Str} (h : shortStr n x) (hn : n ≤ 2000 := by decide) : plainStr x := ⟨Nat.le_trans h.1 hn, h.2⟩
theorem shortStr.le {n m : Nat} {x : Str} (h : shortStr n x) (hn : n ≤ m := by decide) : shortStr m x := ⟨Nat.le_trans h.1 hn, h.2⟩
theorem shortStr.add {n m : Nat} {x y : Str} (h : shortStr n x) (h' : shortStr m y) : shortStr (n + m) (x ++ y) := by
  refine ⟨?_, fun c hc => ?_⟩
  · rw [PySem.Str.cps_append, Array.size_append]; have := h.1; have := h'.1; omega
  · rw [PySem.Str.cps_append, Array.toList_append, List.mem_append] at hc
    exact hc.elim (h.2 c) (h'.2 c)
theorem shortStr.slice {n : Nat} {x : Str} {l u : Option Int} (h : shortStr n x) : shortStr n (Txt.slice x l u) := by
  refine ⟨Nat.le_trans (Txt.slice_le x l u) h.1, fun c hc => ?_⟩
  unfold Txt.slice at hc
  split at hc
  · exact h.2 c hc
  · have hc : c ∈ (strSliceIndices l u 1 x.length).filterMap (x.cps[·]?) := by simpa using hc
    obtain ⟨i, _, hi⟩ := List.mem_filterMap.mp hc
    exact h.2 c (Array.mem_toList_iff.mpr (Array.mem_of_getElem? hi))
theorem shortStr.upper {n : Nat} {x : Str} (h : shortStr n x) : shortStr n (Txt.upper x) := by
  have e := upper_list (x := x) fun c hc => (h.2 c hc).1
  refine ⟨?_, fun c hc => ?_⟩
  · rw [← Array.length_toList, e, List.length_map, Array.length_toList]; exact h.1
  · rw [e] at hc
    obtain ⟨d, hd, rfl⟩ := List.mem_map.mp hc
    exact upC_plain (h.2 d hd)
theorem short_dot : shortStr 1 (Str.ofString ".") := ⟨by decide +kernel, by decide +kernel⟩
theorem join_short {k : Nat} : ∀ {l : List Str}, (∀ y ∈ l, shortStr k y) → shortStr (k * l.length) (Str.join (Str.ofString "") l)
  | [], _ => ⟨by show (#[] : Array Nat).size ≤ _; simp, fun c hc => by simp [Str.join, Str.empty] at hc⟩
  | [y], h => by
    have := h y (List.mem_cons_self ..)
    exact ⟨by simpa [Str.join] using this.1, this.2⟩
  | y :: z :: l, h => by
    have h1 := h y (List.mem_cons_self ..)
    have h2 := join_short (l := z :: l) fun a ha => h a (List.mem_cons_of_mem _ ha)
    have e : Str.join (Str.ofString "") (y :: z :: l) = y ++ Str.join (Str.ofString "") (z :: l) := by
      show y ++ Str.ofString "" ++ Str.join (Str.ofString "") (z :: l) = _
      apply PySem.Str.ext'
      rw [PySem.Str.cps_append, PySem.Str.cps_append, PySem.Str.cps_append, show (Str.ofString "").cps = #[] by decide +kernel, Array.append_empty]
    rw [e]
    have h3 := h1.add h2
    refine ⟨Nat.le_trans h3.1 ?_, h3.2⟩
    rw [List.length_cons, List.length_cons, Nat.mul_succ, Nat.mul_succ, List.length_cons, Nat.mul_succ] at *
    omega

def AnyYes (V : Value → Prop) (news : List (Addr × Obj)) (y : Value) (news' : List (Addr × Obj)) : Prop := news' = news ∧ V y
def AnyNo (news : List (Addr × Obj)) (news' : List (Addr × Obj)) : Prop := news' = news
section
variable {prog : Program} {w : World} {A : Around} {h₀ : Heap} {L : Addr} {m : Str → Option Value} {env : Env} {ct elt : Expr} {x : Str} {scope : Scope} {cl : List (Str × Addr)} {s : Shared} {S : List (Addr × Obj) → Prop} {Fin : List Value → List (Addr × Obj) → Prop} {news : List (Addr × Obj)}
theorem rest_any {n : Nat} (V : Value → Prop)
    (turn : ∀ k t I oI C oC D m₂ ys h tk (E' : Value → Shared → Prop), 0 ≤ k → k < (n : Int) → LCg.NsObj oC m₂ → m₂ x = some (.int k t) → Fr h₀ L h m → News h₀ L h ((I, oI) :: (C, oC) :: (D, LCg.lst ys) :: news) → LCg.Off3 I C D news → ((@Ne Nat I C) ∧ (@Ne Nat I D) ∧ (@Ne Nat C D)) →
      wpAny (model prog w) A (isTrue ct (compEnvC scope cl C env) (eval ct (compEnvC scope cl C env))) (fun b s' => if b = true then wpAny (model prog w) A (eval elt (compEnvC scope cl C env)) (LCg.CompEnd h₀ L m { s with heap := h, toks := tk } I oI C oC D (LCg.lst ys) S (fun y news' => AnyYes V news y news')) E' s'
        else LCg.CompEnd h₀ L m { s with heap := h, toks := tk } I oI C oC D (LCg.lst ys) S (fun _ news' => AnyNo news news') Value.none s') E' { s with heap := h, toks := tk })
    (fin : ∀ ys, ys.length ≤ n → (∀ y ∈ ys, V y) → Fin ys news) : LCt.CompRestT prog w A h₀ L m env ct elt x scope cl s S (fun i v => ∃ t, v = .int (0 + (i : Int)) t) Fin n 0 [] news := by
  have key : ∀ (j i : Nat) (ys : List Value), i + j = n → ys.length ≤ i → (∀ y ∈ ys, V y) → LCt.CompRestT prog w A h₀ L m env ct elt x scope cl s S (fun i v => ∃ t, v = .int (0 + (i : Int)) t) Fin j i ys news := by
    intro j
    induction j with
    | zero => exact fun i ys hi hl hy => LCt.CompRestT.zero (fin ys (by omega) hy)
    | succ j ih =>
      intro i ys hi hl hy
      refine LCt.CompRestT.succ ?_
      intro v I oI C oC D m₂ h tk E' hv hC hx F N off ne
      obtain ⟨t, rfl⟩ := hv
      have e0 : (0 : Int) + (i : Int) = (i : Int) := by omega
      rw [e0] at hx
      refine wpAny_mono (turn (i : Int) t I oI C oC D m₂ ys h tk E' (by omega) (by omega) hC hx F N off ne) (fun b s₂ hq => ?_) fun _ _ e => e
      cases b with
      | true =>
        simp only [if_true] at hq ⊢
        refine wpAny_mono hq (fun y s₃ hr => ?_) fun _ _ e => e
        obtain ⟨h', tk', nw, e, F', N', off', hS, hn, hV⟩ := hr
        rw [hn] at N' off' hS
        refine ⟨h', tk', news, e, F', N', off', hS, ih (i + 1) _ (by omega) (by rw [List.length_append, List.length_singleton]; omega) fun z hz => ?_⟩
        rcases List.mem_append.mp hz with hz | hz
        · exact hy z hz
        · rw [List.mem_singleton.mp hz]; exact hV
      | false =>
        simp only [Bool.false_eq_true, if_false] at hq ⊢
        obtain ⟨h', tk', nw, e, F', N', off', hS, hn⟩ := hq
        rw [show nw = news from hn] at N' off' hS
        exact ⟨h', tk', news, e, F', N', off', hS, ih (i + 1) _ (by omega) (by omega) hy⟩
  exact key n 0 [] (by omega) (Nat.le_refl _) (fun _ h => nomatch h)
theorem any_yes {I C D : Addr} {oI oC oD : Obj} {s₁ : Shared} {h' : Heap} {tk : Nat} {V : Value → Prop} {y : Value} (F : Fr h₀ L h' m) (N : News h₀ L h' ((I, oI) :: (C, oC) :: (D, oD) :: news)) (off : LCg.Off3 I C D news) (hS : S news) (hV : V y) :
    LCg.CompEnd h₀ L m s₁ I oI C oC D oD S (fun y news' => AnyYes V news y news') y { s₁ with heap := h', toks := tk } :=
  LCg.CompEnd.intro F N news (fun _ h => h) off hS ⟨rfl, hV⟩
theorem any_no {I C D : Addr} {oI oC oD : Obj} {s₁ : Shared} {h' : Heap} {tk : Nat} {y : Value} (F : Fr h₀ L h' m) (N : News h₀ L h' ((I, oI) :: (C, oC) :: (D, oD) :: news)) (off : LCg.Off3 I C D news) (hS : S news) :
    LCg.CompEnd h₀ L m s₁ I oI C oC D oD S (fun _ news' => AnyNo news news') y { s₁ with heap := h', toks := tk } :=
  LCg.CompEnd.intro F N news (fun _ h => h) off hS rfl
end
/-- a piece of a name -/
def pieceV (v : Value) : Prop := ∃ y t, v = .str y t ∧ shortStr 6 y
section
variable {prog : Program} {w : World} {A : Around} {h₀ : Heap} {L : Addr} {m : Str → Option Value} {env : Env} {ct elt : Expr} {z : Str} {scope : Scope} {cl : List (Str × Addr)} {s₁ : Shared} {news : List (Addr × Obj)}
theorem pieces_src {Fin : Shared → List Value → List (Addr × Obj) → Prop} {r : Addr} {b : Int} {t u v : Tok}
    (hh : A.handled = none) (F : Fr h₀ L s₁.heap m) (N : News h₀ L s₁.heap news) (hr : IsRange s₁.heap r 0 b 1 t u v) (hb0 : 0 ≤ b) (hb : b ≤ 16)
    (turn : ∀ g k t I oI C oC D m₂ ys h tk (E' : Value → Shared → Prop), 0 ≤ k → k < b → LCg.NsObj oC m₂ → m₂ z = some (.int k t) → Fr h₀ L h m → News h₀ L h ((I, oI) :: (C, oC) :: (D, LCg.lst ys) :: news) → LCg.Off3 I C D news → ((@Ne Nat I C) ∧ (@Ne Nat I D) ∧ (@Ne Nat C D)) →
      wpAny (model prog w) A (isTrue ct (compEnvC scope cl C env) (eval ct (compEnvC scope cl C env))) (fun b s' => if b = true then wpAny (model prog w) A (eval elt (compEnvC scope cl C env)) (LCg.CompEnd h₀ L m { { s₁ with heap := g } with heap := h, toks := tk } I oI C oC D (LCg.lst ys) (fun _ => True) (fun y' news' => AnyYes pieceV news y' news')) E' s'
        else LCg.CompEnd h₀ L m { { s₁ with heap := g } with heap := h, toks := tk } I oI C oC D (LCg.lst ys) (fun _ => True) (fun _ news' => AnyNo news news') Value.none s') E' { { s₁ with heap := g } with heap := h, toks := tk })
    (fin : ∀ g ys, ys.length ≤ 16 → (∀ y ∈ ys, pieceV y) → Fin { s₁ with heap := g } ys news) :
    LCt.CompSrcT prog w A h₀ L m env ct elt z scope cl Fin (.ref r) s₁ := by
  obtain ⟨n, rfl⟩ := Int.eq_ofNat_of_zero_le hb0
  refine LCt.CompSrcT.range (n := n) hh F N hr (small_one (by omega) (by omega) (by omega) (by omega)) ?_ (by rw [sizeLine_eq]; omega) fun g => ?_
  · have := rangeSize_nat 0 (n : Int)
    rw [this]; omega
  · exact rest_any pieceV (turn g) fun ys h1 h2 => fin g ys (by omega) h2
theorem pieces_texts : ∀ {ys : List Value}, (∀ y ∈ ys, pieceV y) → ∃ l : List (Str × Tok), ys = strValues l ∧ ∀ y ∈ l.map (·.1), shortStr 6 y
  | [], _ => ⟨[], rfl, fun _ h => nomatch h⟩
  | v :: ys, h => by
    obtain ⟨y, t, rfl, hy⟩ := h v (List.mem_cons_self ..)
    obtain ⟨l, rfl, hl⟩ := pieces_texts fun z hz => h z (List.mem_cons_of_mem _ hz)
    refine ⟨(y, t) :: l, rfl, fun z hz => ?_⟩
    rcases List.mem_cons.mp hz with rfl | hz
    · exact hy
    · exact hl z hz
theorem sum_few {k : Nat} : ∀ {l : List Str}, (∀ y ∈ l, shortStr k y) → (l.map (·.length)).sum ≤ k * l.length
  | [], _ => Nat.zero_le _
  | y :: l, h => by
    have h1 : y.length ≤ k := (h y (List.mem_cons_self ..)).1
    have h2 := sum_few (l := l) fun z hz => h z (List.mem_cons_of_mem _ hz)
    rw [List.map_cons, List.sum_cons, List.length_cons, Nat.mul_succ]
    omega
theorem joinOk_few {l : List Str} (h1 : l.length ≤ 16) (h : ∀ y ∈ l, shortStr 6 y) : JoinOk (Str.ofString "") l = true := by
  have h2 := sum_few h
  have h3 : (Str.ofString "").length = 0 := by decide +kernel
  unfold JoinOk
  rw [StrLaws.joinTotal, h3, Nat.mul_zero, Nat.add_zero, short_of (by omega)]
  rfl
theorem join_P {E : Value → Shared → Prop} {s : Shared} {D : Addr} {ys : List Value} {n : Nat} {t : Tok} {Q : Value → Shared → Prop} (N : News h₀ L s.heap news) (hm : (D, listOf ys.toArray n) ∈ news) (hl : ys.length ≤ 16) (hp : ∀ y ∈ ys, pieceV y)
    (hq : ∀ x t' k, shortStr 96 x → Q (.str x t') { s with toks := k }) : wpAny (model prog w) A (call (.builtin "str.join") [.str (Str.ofString "") t, .ref D]) Q E s := by
  obtain ⟨l, rfl, hs⟩ := pieces_texts hp
  have hlen : l.length ≤ 16 := by rw [strValues, List.length_map] at hl; exact hl
  refine SC.join (PySem.IsL.isList (n := n) (N _ hm).1) rfl (joinOk_few (by rw [List.length_map]; exact hlen) hs) fun t' k => hq _ t' k ?_
  have h1 := join_short hs
  rw [List.length_map] at h1
  have e : Txt.join (Str.ofString "") (l.map (·.1)) = Str.join (Str.ofString "") (l.map (·.1)) := StrLaws.glued_eq_join _ _
  rw [e]
  exact ⟨Nat.le_trans h1.1 (by omega), h1.2⟩
end
end Mine
namespace Mine
def okPiece (y : Str) : Bool := decide (y.cps.size ≤ 6) && y.cps.toList.all fun c => decide (c < 128) && c != 10
theorem okPiece_short {y : Str} (h : okPiece y = true) : shortStr 6 y := by
  unfold okPiece at h
  rw [Bool.and_eq_true, decide_eq_true_eq, List.all_eq_true] at h
  refine ⟨h.1, fun c hc => ?_⟩
  have := h.2 c hc
  rw [Bool.and_eq_true, decide_eq_true_eq, bne_iff_ne] at this
  exact this
theorem pieceV_getD {T : List Str} {i : Nat} {d : Str} {t : Tok} (h : (d :: T).all okPiece = true) : pieceV (.str (T.getD i d) t) := by
  refine ⟨_, _, rfl, okPiece_short ?_⟩
  have h1 := List.all_eq_true.mp h
  rw [List.getD_eq_getElem?_getD]
  cases e : T[i]? with
  | none => exact h1 d (List.mem_cons_self ..)
  | some y => exact h1 y (List.mem_cons_of_mem _ (List.mem_of_getElem? e))
end Mine
namespace Mine
section
variable {prog : Program} {w : World} {A : Around} {E : Value → Shared → Prop} {s : Shared} {x y : Str} {t u : Tok} {Q : Value → Shared → Prop} {n k : Nat} {h₀ : Heap} {L : Addr} {m : Str → Option Value} {news : List (Addr × Obj)} {value slice : Expr}
theorem add_S (hx : shortStr n x) (hy : shortStr k y) (hn : n + k ≤ 2000) (h : ∀ z t' k', shortStr (n + k) z → Q (.str z t') { s with toks := k' }) : wpAny (model prog w) A (binaryOp .Add (.str x t) (.str y u)) Q E s :=
  KOpn.add (by have h1 : x.length ≤ n := hx.1; have h2 : y.length ≤ k := hy.1; omega) fun t' k' _ => h _ t' k' (hx.add hy)
theorem upper_S (hx : shortStr n x) (hn : n ≤ 2000) (h : ∀ z t', shortStr n z → Q (.str z t') { s with toks := s.toks + 1 }) : wpAny (model prog w) A (call (.builtin "str.upper") [.str x t]) Q E s :=
  SC.upper (short_of (Nat.le_trans hx.upper.1 (by omega))) (h _ _ hx.upper)
theorem slice_S {i : Int} {ui : Tok} (hx : shortStr n x) (hn : n ≤ 2000) (hF : Fr h₀ L s.heap m) (hN : News h₀ L s.heap news) (h : ∀ z h' t' k', shortStr n z → Fr h₀ L h' m → News h₀ L h' news → Q (.str z t') { s with heap := h', toks := k' })
    (hs : subscripted slice false (.str x t) (.ref s.heap.objs.size) = operate [.ref s.heap.objs.size, .str x t] (getItem (.str x t) (.ref s.heap.objs.size)) := by with_unfolding_all rfl)
    (ht : ∀ r, letTemporaryGo value (.str x t) r = pure () := by intro _; with_unfolding_all rfl) :
    wpAny (model prog w) A (subscriptTail value slice (.str x t) (.ref s.heap.objs.size)) Q E { s with heap := s.heap.push { cls := .type "slice", data := .fields #[.int i ui, .none, .none] } } :=
  slice_strN_sn hF hN (fun h' t' k' F N => h _ h' t' k' hx.slice F N) hs ht (by have h1 : x.length ≤ n := hx.1; rw [sizeLine_eq]; omega)
theorem len_S (hx : shortStr n x) (hn : n ≤ 2000) (h : x.length ≤ n → Q (.int x.length (s.toks + 1)) { s with toks := s.toks + 1 + 1 }) : wpAny (model prog w) A (call (.builtin "len") [.str x t]) Q E s :=
  len_str (by have := hx.1; show ¬ (x.cps.size : Int) ≥ 2 ^ 63; omega) (h hx.1)
end
end Mine
namespace Mine
abbrev pairT (x : Str) (t : Tok) (y : Str) (u : Tok) : Obj := { cls := .type "tuple", data := .seq [Value.str x t, Value.str y u].toArray }
/-- a turn comes to its end, the ledger as it was -/
def TurnEnd (h₀ : Heap) (L : Addr) (led : List (Addr × Obj)) (s : Shared) (f : Flow) (s₃ : Shared) : Prop :=
  f = .next ∧ ∃ h' tk' m', s₃ = { s with heap := h', toks := tk' } ∧ Fr h₀ L h' m' ∧ News h₀ L h' led
theorem TurnEnd.intro {h₀ : Heap} {L : Addr} {led : List (Addr × Obj)} {s : Shared} {h' : Heap} {tk' : Nat} {m' : Str → Option Value} (F : Fr h₀ L h' m') (N : News h₀ L h' led) : TurnEnd h₀ L led s .next { s with heap := h', toks := tk' } :=
  ⟨rfl, h', tk', m', rfl, F, N⟩
structure PairV (news : List (Addr × Obj)) (v : Value) : Prop where
  is : ∃ D x t y u, v = .ref D ∧ plainStr x ∧ plainStr y ∧ (D, pairT x t y u) ∈ news
theorem turns_all {prog : Program} {w : World} {A : Around} {E : Value → Shared → Prop} {h₀ : Heap} {env : Env} {target : Expr} {body : List Stmt} {Q : Flow → Shared → Prop} {s : Shared} {I : Addr} {keep news : List (Addr × Obj)}
    (turn : ∀ (D : Addr) (x y : Str) (t u : Tok) (led : List (Addr × Obj)) (m : Str → Option Value) (h : Heap) (tk : Nat), plainStr x → plainStr y → IsTup h D #[.str x t, .str y u] → Fr h₀ env.locals h m → News h₀ env.locals h led →
      wpAny (model prog w) A (assign target env (.ref D)) (fun _ s₂ => wpAny (model prog w) A (execs body env) (TurnEnd h₀ env.locals led s) E s₂) E { s with heap := h, toks := tk })
    (sub : SubL keep news) (off : ∀ p ∈ news, p.1 ≠ I)
    (fin : ∀ m h tk, Fr h₀ env.locals h m → News h₀ env.locals h news → Q .next { s with heap := h, toks := tk }) :
    ∀ (vs : List Value) (m : Str → Option Value), (∀ v ∈ vs, PairV news v) → ItemsRest prog w A E h₀ env target body Q s [(I, "list_iterator")] keep (vs.map .val) m news
  | [], m, _ => ItemsRest.zero fun h tk F N => fin m h tk F N
  | v :: vs, m, hv => by
    obtain ⟨D, x, t, y, u, rfl, hx, hy, hm⟩ := (hv v (List.mem_cons_self ..)).is
    rw [List.map_cons]
    refine ItemsRest.val fun h tk F => ?_
    intro o _ N
    have hT : IsTup h D #[.str x t, .str y u] := News.isTup (n := 0) N (List.mem_append_right _ hm)
    refine wpAny_mono (turn D x y t u _ m h tk hx hy hT F N) (fun _ s₂ hq => wpAny_mono hq (fun f s₃ he => ?_) fun _ _ e => e) fun _ _ e => e
    obtain ⟨rfl, h', tk', m', e, F', N'⟩ := he
    refine ⟨h', tk', m', news, e, F', N', fun p hp q hq hpq => ?_, sub, turns_all turn sub off fin vs m' fun z hz => hv z (List.mem_cons_of_mem _ hz)⟩
    rw [List.mem_singleton.mp hq] at hpq
    exact off p hp hpq
end Mine

namespace Mine
open Builtin Builtin.Str
abbrev headS (y : Str) : Str := Txt.slice y none (some 1)
abbrev tailS (x y : Str) : Str := Txt.slice x (some (if (x.length : Int) - (y.length : Int) > 0 then (x.length : Int) - (y.length : Int) else 0)) none
theorem ends_slice (x y : Str) : (tailS x y == y) = Txt.endswith x y := by
  have h1 := Lx_len x
  have h2 := Lx_len y
  have e : (if (x.length : Int) - (y.length : Int) > 0 then (x.length : Int) - (y.length : Int) else 0) = ((x.length - y.length : Nat) : Int) := by
    split <;> omega
  unfold Txt.endswith
  show (Txt.slice x (some (if (x.length : Int) - (y.length : Int) > 0 then (x.length : Int) - (y.length : Int) else 0)) none == y) = _
  rw [e, Bool.eq_iff_iff, beq_iff, Bool.and_eq_true, subAt_L, slice_sn, decide_eq_true_eq, Nat.zero_add]
  constructor
  · intro h
    have h3 := congrArg List.length h
    rw [List.length_drop] at h3
    refine ⟨by omega, ?_⟩
    rw [List.take_of_length_le (by rw [List.length_drop]; omega)]
    exact h
  · rintro ⟨h3, h4⟩
    rw [List.take_of_length_le (by rw [List.length_drop]; omega)] at h4
    exact h4
theorem udm_law (x y : Str) : mUdm x y = (if mFig (Txt.lower x) = true then Txt.lower x == Txt.lower y else if mFig (Txt.lower y) = true then Txt.lower x == Txt.lower y else
    ((Txt.lower x == Txt.lower y) && (headS (Txt.lower y) != Str.ofString ".")) || ((headS (Txt.lower y) == Str.ofString ".") && (tailS (Txt.lower x) (Txt.lower y) == Txt.lower y))) := by
  unfold mUdm
  rw [ends_slice, bne, starts_dot]
  cases mFig (Txt.lower x) <;> cases mFig (Txt.lower y) <;> cases Txt.startswith (Txt.lower y) (Str.ofString ".") <;> cases Txt.endswith (Txt.lower x) (Txt.lower y) <;> cases (Txt.lower x == Txt.lower y) <;> rfl
section
variable {x y : Str}
theorem bad1 (hb : (mUdm x y != (Txt.lower x == Txt.lower y)) = true) (h1 : mFig (Txt.lower x) = true) : False := by
  rw [udm_law, if_pos h1] at hb; simp at hb
theorem bad2 (hb : (mUdm x y != (Txt.lower x == Txt.lower y)) = true) (h1 : mFig (Txt.lower x) = false) (h2 : mFig (Txt.lower y) = true) : False := by
  rw [udm_law, h1, h2] at hb; simp at hb
theorem bad3 (hb : (mUdm x y != (headS (Txt.lower y) != Str.ofString ".")) = true) (h1 : mFig (Txt.lower x) = false) (h2 : mFig (Txt.lower y) = false) (h3 : (Txt.lower x == Txt.lower y) = true) (h4 : (headS (Txt.lower y) != Str.ofString ".") = true) : False := by
  rw [udm_law, h1, h2, h3, h4] at hb; simp at hb
theorem bad4 (hb : (mUdm x y != (tailS (Txt.lower x) (Txt.lower y) == Txt.lower y)) = true) (h1 : mFig (Txt.lower x) = false) (h2 : mFig (Txt.lower y) = false) (h4 : (headS (Txt.lower y) != Str.ofString ".") = false) (h5 : (headS (Txt.lower y) == Str.ofString ".") = true) : False := by
  rw [udm_law, h1, h2, h4, h5] at hb; simp at hb
theorem bad5 (hb : (mUdm x y != (headS (Txt.lower y) == Str.ofString ".")) = true) (h1 : mFig (Txt.lower x) = false) (h2 : mFig (Txt.lower y) = false) (h4 : (headS (Txt.lower y) != Str.ofString ".") = false) (h5 : (headS (Txt.lower y) == Str.ofString ".") = false) : False := by
  rw [udm_law, h1, h2, h4, h5] at hb; simp at hb
theorem bad6 (hb : (mUdm x y != (tailS (Txt.lower x) (Txt.lower y) == Txt.lower y)) = true) (h1 : mFig (Txt.lower x) = false) (h2 : mFig (Txt.lower y) = false) (h3 : (Txt.lower x == Txt.lower y) = false) (h5 : (headS (Txt.lower y) == Str.ofString ".") = true) : False := by
  rw [udm_law, h1, h2, h3, h5] at hb; simp at hb
theorem bad7 (hb : (mUdm x y != (headS (Txt.lower y) == Str.ofString ".")) = true) (h1 : mFig (Txt.lower x) = false) (h2 : mFig (Txt.lower y) = false) (h3 : (Txt.lower x == Txt.lower y) = false) (h5 : (headS (Txt.lower y) == Str.ofString ".") = false) : False := by
  rw [udm_law, h1, h2, h3, h5] at hb; simp at hb
end
end Mine
namespace Mine
theorem TurnEnd.intro1 {h₀ : Heap} {L : Addr} {led : List (Addr × Obj)} {q : Addr × Obj} {s : Shared} {h' : Heap} {tk' : Nat} {m' : Str → Option Value} (F : Fr h₀ L h' m') (N : News h₀ L h' (q :: led)) : TurnEnd h₀ L led s .next { s with heap := h', toks := tk' } :=
  ⟨rfl, h', tk', m', rfl, F, fun p hp => N p (List.mem_cons_of_mem _ hp)⟩
end Mine
namespace Mine
theorem d69 (w : World) (mean : ExcName → Option Value) (mg mb : Str → Option Value) (news : List (Addr × Obj)) (x : Str) (t : Tok) :
    Fn w mean mg mb 69 12 news (plainStr x) [.str x t] (fun _ => .bool (mFig x)) := by rw [← lFig_eq]; exact c69 w mean mg mb news x t
theorem d76 (w : World) (mean : ExcName → Option Value) (mg mb : Str → Option Value) (news : List (Addr × Obj)) (x : Str) (t : Tok) :
    Fn w mean mg mb 76 14 news (plainStr x) [.str x t] (fun _ => .bool (mHdn x)) := by rw [← lName_eq]; exact c76 w mean mg mb news x t
theorem d81 (w : World) (mean : ExcName → Option Value) (mg mb : Str → Option Value) (news : List (Addr × Obj)) (x y : Str) (t u : Tok) :
    Fn w mean mg mb 81 26 news (plainStr x ∧ plainStr y) [.str (Txt.lower x) t, .str (Txt.lower y) u] (fun _ => .bool (mDm x y)) := by
  rw [← lMatch_eq]
  have h := c81 w mean mg mb news (Txt.lower x) (Txt.lower y) t u
  dsimp only [Fn, FnTells] at h ⊢
  intro dp un gd cn cs a ccd cl outer A₀ base h₀ L m s Q E B F X N T hk hp hd hu ret
  exact h dp un gd cn cs a ccd cl outer A₀ base h₀ L m s Q E B F X N T hk ⟨plain_lower hp.1, plain_lower hp.2⟩ hd hu ret
section
variable {prog : Program} {w : World} {A : Around} {E : Value → Shared → Prop} {s : Shared} {a b : Bool} {Q : Value → Shared → Prop}
theorem isNot_eq (e : a = b) (h : Q (.bool false) s) : wpAny (model prog w) A (compareOp .IsNot (.bool a) (.bool b)) Q E s := by
  subst e
  refine isnot_bool ?_
  cases a <;> exact h
theorem is_ne (e : a = !b) (h : Q (.bool false) s) : wpAny (model prog w) A (compareOp .Is (.bool a) (.bool b)) Q E s := by
  subst e
  refine is_bool ?_
  cases b <;> exact h
end
end Mine
namespace Mine
local macro_rules | `(tactic| walk_at "getMethod ref") => `(tactic| (k_here; (with_reducible show wpAny _ _ (getMethod (Value.ref _) (Str.ofString "search") _) _ _ _); (refine' get_search ?F ?X ?e ?c ?d ?_; (case F => k_asm); (case X => k_asm); (case e => k_is); (case c => rfl); (case d => rfl))))
local macro_rules | `(tactic| walk_at "call builtin:re.Pattern.search") => `(tactic| (k_here; focus (refine' search_K ?F ?N ?X ?eP ?hPc ?hPd ?eC ?hCd ?hx ?_ ?_; (case F => k_asm); (case N => k_asm); (case X => k_asm); (case eP => k_is); (case hPc => rfl); (case hPd => rfl); (case eC => k_is); (case hCd => rfl); (case hx => assumption); all_goals (first | (intro hfig aM hM FM NM MM) | intro hfig))))
local macro_rules | `(tactic| walk_at "truthy ref") => `(tactic| (k_here; (refine' truthy_match ?hm ?_; (case hm => assumption))))
local macro_rules | `(tactic| walk_at "call builtin:str.lower") => `(tactic| (k_here; (with_reducible show wpAny _ _ (call (Value.builtin "str.lower") [Value.str _ _]) _ _ _); (refine lower_P (by first | assumption | exact plain_lower (by assumption)) ?_)))
local macro_rules | `(tactic| walk_at "call builtin:str.upper") => `(tactic| (k_here; (with_reducible show wpAny _ _ (call (Value.builtin "str.upper") [Value.str _ _]) _ _ _); (refine upper_P (by first | assumption | exact plain_lower (by assumption)) ?_)))
local macro_rules | `(tactic| size_fits) => `(tactic| exact plain_fits (by first | assumption | exact plain_lower (by assumption)))
local macro_rules | `(tactic| walk_at "call builtin:len") => `(tactic| (k_here; (with_reducible show wpAny _ _ (call (Value.builtin "len") [Value.str _ _]) _ _ _); (refine len_P (by first | assumption | exact plain_lower (by assumption)) ?_); intro _))
local macro_rules | `(tactic| walk_at "CompSrcT") => `(tactic| (k_here; k_dflt (refine' pieces_src ?hh ?F ?N ?hr ?hb0 ?hb ?_ ?_; (case hh => exact rfl); (case F => k_asm); (case N => k_asm); (case hr => assumption); (case hb0 => first | omega | l_fact); (case hb => first | omega | l_fact)); focus all_goals (first | (intro g' k' t' I' oI' C' oC' D' m' ys' h' tk' E' hlo' hhi' hC' hx' F' N' off' ne'; (try dsimp only); (try k_fold)) | (intro g' ys' hl' hV'))))
local macro_rules | `(tactic| walk_at "CompEnd") => `(tactic| (k_dflt (first
  | (refine' any_yes ?F ?N ?off ?hS ?hV; (case F => k_asm); (case N => k_asm); (case off => assumption); (case hS => exact trivial); (case hV => exact pieceV_getD (by decide +kernel)))
  | (refine' any_no ?F ?N ?off ?hS; (case F => k_asm); (case N => k_asm); (case off => assumption); (case hS => exact trivial)))))
local macro_rules | `(tactic| walk_at "call builtin:str.join") => `(tactic| (k_here; (with_reducible show wpAny _ _ (call (Value.builtin "str.join") [Value.str (Str.ofString "") _, Value.ref _]) _ _ _); (refine' join_P ?N ?hm ?hl ?hp ?_; (case hp => assumption); (case N => k_asm); (case hm => k_mem); (case hl => assumption)); intro x' t' k' hs'))
local macro_rules | `(tactic| walk_at "binaryOp Add str str") => `(tactic| (k_here; (with_reducible show wpAny _ _ (binaryOp _ (Value.str _ _) (Value.str _ _)) _ _ _); (refine' add_S ?hx ?hy ?hn ?_; (case hx => first | assumption | exact short_dot); (case hy => first | assumption | exact short_dot); (case hn => decide)); intro z' t' k' hz'))
local macro_rules | `(tactic| walk_at "call builtin:str.upper") => `(tactic| (k_here; (with_reducible show wpAny _ _ (call (Value.builtin "str.upper") [Value.str _ _]) _ _ _); (refine' upper_S ?hx ?hn ?_; (case hx => assumption); (case hn => decide)); intro z' t' hz'))
local macro_rules | `(tactic| walk_at "call builtin:len") => `(tactic| (k_here; (with_reducible show wpAny _ _ (call (Value.builtin "len") [Value.str _ _]) _ _ _); (refine' len_S ?hx ?hn ?_; (case hx => assumption); (case hn => decide)); intro _))
local macro_rules | `(tactic| walk_at "subscriptTail Name Slice str ref") => `(tactic| ((with_reducible show wpAny _ _ (subscriptTail _ (Expr.Slice (some _) none none _) _ _) _ _ _); (with_reducible rename Fr _ _ _ _ => F'); (with_reducible rename News _ _ _ _ => N'); (refine' slice_S (s := ⟨_, _, _, _, _⟩) ?hx ?hn F' N' ?_; (case hx => assumption); (case hn => decide)); intro z' h' t' k' hz' F2' N2'))
local macro_rules | `(tactic| walk_at "ItemsRest") => `(tactic| (k_here; k_dflt (refine' turns_all ?turn ?sub ?off ?fin _ _ ?items; (case sub => k_subL); (case off => k_all); (case items => (repeat' (refine List.forall_mem_cons.mpr ⟨?_, ?_⟩)); all_goals (first | exact List.forall_mem_nil _ | (refine' PairV.mk ⟨_, _, _, _, _, rfl, ?hx, ?hy, ?hm⟩; (case hm => k_mem); (case hx => exact shortStr.plain (by assumption) (by decide)); (case hy => exact shortStr.plain (by assumption) (by decide))))); (case' turn => intro D' x' y' t' u' led' m' h' tk' hx' hy' hT' F' N'); (case' fin => intro m' h' tk' F' N'); all_goals (try dsimp only))))
local macro_rules | `(tactic| walk_at "compareOp IsNot bool bool") => `(tactic| (refine isNot_eq rfl ?_))
local macro_rules | `(tactic| walk_at "compareOp Is bool bool") => `(tactic| (refine is_ne rfl ?_))
local macro_rules | `(tactic| walk_at "call ref") => `(tactic| (k_here; (with_reducible show wpAny _ _ (call (Value.ref 43) _) _ _ _); k_dflt (refine' use_of (c43 _ _ _ _ _ _ _) ?k1 ?k2 ?k3 ?k4 ?k5 ?kK ?kp ?kd ?ku ?_; (case k1 => k_asm); (case k2 => k_asm); (case k3 => k_asm); (case k4 => k_asm); (case k5 => k_asm); (case kK => first | exact rfl | assumption); (case kp => first | assumption | exact plain_lower (by assumption)); (case kd => ktr_room); (case ku => ktr_units)); intro t9 h9 tk9 F9 N9; (try dsimp only); (try k_fold)))
local macro_rules | `(tactic| walk_at "call ref") => `(tactic| (k_here; (with_reducible show wpAny _ _ (call (Value.ref 57) _) _ _ _); k_dflt (refine' use_of (c57 _ _ _ _ _ _ _) ?k1 ?k2 ?k3 ?k4 ?k5 ?kK ?kp ?kd ?ku ?_; (case k1 => k_asm); (case k2 => k_asm); (case k3 => k_asm); (case k4 => k_asm); (case k5 => k_asm); (case kK => first | exact rfl | assumption); (case kp => first | assumption | exact plain_lower (by assumption)); (case kd => ktr_room); (case ku => ktr_units)); intro t9 h9 tk9 F9 N9; (try dsimp only); (try k_fold)))
local macro_rules | `(tactic| walk_at "call ref") => `(tactic| (k_here; (with_reducible show wpAny _ _ (call (Value.ref 50) _) _ _ _); k_dflt (refine' use_of (c50 _ _ _ _ _ _ _ _ _) ?k1 ?k2 ?k3 ?k4 ?k5 ?kK ?kp ?kd ?ku ?_; (case k1 => k_asm); (case k2 => k_asm); (case k3 => k_asm); (case k4 => k_asm); (case k5 => k_asm); (case kK => first | exact rfl | assumption); (case kp => exact ⟨by assumption, by assumption⟩); (case kd => ktr_room); (case ku => ktr_units)); intro t9 h9 tk9 F9 N9; (try dsimp only); (try k_fold)))
local macro_rules | `(tactic| walk_at "call ref") => `(tactic| (k_here; (with_reducible show wpAny _ _ (call (Value.ref 64) _) _ _ _); k_dflt (refine' use_of (c64 _ _ _ _ _ _ _ _ _) ?k1 ?k2 ?k3 ?k4 ?k5 ?kK ?kp ?kd ?ku ?_; (case k1 => k_asm); (case k2 => k_asm); (case k3 => k_asm); (case k4 => k_asm); (case k5 => k_asm); (case kK => first | exact rfl | assumption); (case kp => exact ⟨by assumption, by assumption⟩); (case kd => ktr_room); (case ku => ktr_units)); intro t9 h9 tk9 F9 N9; (try dsimp only); (try k_fold)))
local macro_rules | `(tactic| walk_at "call ref") => `(tactic| (k_here; (with_reducible show wpAny _ _ (call (Value.ref 69) _) _ _ _); k_dflt (refine' use_of (d69 _ _ _ _ _ _ _) ?k1 ?k2 ?k3 ?k4 ?k5 ?kK ?kp ?kd ?ku ?_; (case k1 => k_asm); (case k2 => k_asm); (case k3 => k_asm); (case k4 => k_asm); (case k5 => k_asm); (case kK => first | exact rfl | assumption); (case kp => first | assumption | exact plain_lower (by assumption)); (case kd => ktr_room); (case ku => ktr_units)); intro t9 h9 tk9 F9 N9; (try dsimp only); (try k_fold)))
local macro_rules | `(tactic| walk_at "call ref") => `(tactic| (k_here; (with_reducible show wpAny _ _ (call (Value.ref 76) _) _ _ _); k_dflt (refine' use_of (d76 _ _ _ _ _ _ _) ?k1 ?k2 ?k3 ?k4 ?k5 ?kK ?kp ?kd ?ku ?_; (case k1 => k_asm); (case k2 => k_asm); (case k3 => k_asm); (case k4 => k_asm); (case k5 => k_asm); (case kK => first | exact rfl | assumption); (case kp => first | assumption | exact plain_lower (by assumption)); (case kd => ktr_room); (case ku => ktr_units)); intro t9 h9 tk9 F9 N9; (try dsimp only); (try k_fold)))
local macro_rules | `(tactic| walk_at "call ref") => `(tactic| (k_here; (with_reducible show wpAny _ _ (call (Value.ref 81) _) _ _ _); k_dflt (refine' use_of (d81 _ _ _ _ _ _ _ _ _) ?k1 ?k2 ?k3 ?k4 ?k5 ?kK ?kp ?kd ?ku ?_; (case k1 => k_asm); (case k2 => k_asm); (case k3 => k_asm); (case k4 => k_asm); (case k5 => k_asm); (case kK => first | exact rfl | assumption); (case kp => exact ⟨by assumption, by assumption⟩); (case kd => ktr_room); (case ku => ktr_units)); intro t9 h9 tk9 F9 N9; (try dsimp only); (try k_fold)))

theorem t86 : PySem.Challenge.rw_wy0008_01.Holds := Mine.hd (by
  k_go0; (all_goals try k_fold)
  k_steps
  all_goals first
    | ((with_reducible show TurnEnd _ _ _ _ _ _); (rename Fr _ _ _ _ => fE); (rename News _ _ _ _ => nE); exact TurnEnd.intro1 fE nE)
    | (exfalso; with_reducible first
      | exact bad1 (by with_reducible assumption) (by with_reducible assumption)
      | exact bad2 (by with_reducible assumption) (by with_reducible assumption) (by with_reducible assumption)
      | exact bad3 (by with_reducible assumption) (by with_reducible assumption) (by with_reducible assumption) (by with_reducible assumption) (by with_reducible assumption)
      | exact bad4 (by with_reducible assumption) (by with_reducible assumption) (by with_reducible assumption) (by with_reducible assumption) (by with_reducible assumption)
      | exact bad5 (by with_reducible assumption) (by with_reducible assumption) (by with_reducible assumption) (by with_reducible assumption) (by with_reducible assumption)
      | exact bad6 (by with_reducible assumption) (by with_reducible assumption) (by with_reducible assumption) (by with_reducible assumption) (by with_reducible assumption)
      | exact bad7 (by with_reducible assumption) (by with_reducible assumption) (by with_reducible assumption) (by with_reducible assumption) (by with_reducible assumption)))
end Mine

set_option maxRecDepth 100000 in
set_option maxHeartbeats 8000000 in
theorem PySem.Challenge.cw_wy0008_01_holds : PySem.Challenge.rw_wy0008_01.Holds := by
  exact Mine.t86
