import PyProof.Rows.All
import Wide.All
import OpenK.AllK
import Wide.FinOn
import PySem.Challenge.RW_ik0003_01
set_option Elab.async false
set_option maxRecDepth 100000
local macro_rules | `(tactic| walk_at $s:str) => `(tactic| k_extra $s)
set_option Elab.async false
namespace Mine
open PySem PySem.W PyProof.Rows
set_option maxRecDepth 100000 in
set_option maxHeartbeats 8000000 in
open_top hd for PySem.Challenge.rw_ik0003_01
end Mine

set_option maxHeartbeats 400000
set_option Elab.async false
namespace Mine
open PySem.Sre PySem.Sre.M

/-- the same machine over another text -/
@[reducible] def lift (t : Array Nat) (l ls : Nat) (m : M) : M := { m with text := t, lim := l, lastStart := ls }

theorem run_ge {code t : Array Nat} {i : Nat} : ∀ n p found seen r seen', run code t i n p found seen = .ok (r, seen') → found ≤ r := by
  intro n
  induction n with
  | zero => intro p found seen r seen' h; simp [run] at h; omega
  | succ n ih =>
    intro p found seen r seen' h
    simp only [run] at h
    cases ha : accepts code i (t.getD p 0) seen with
    | error e => rw [ha] at h; simp [bind, Except.bind] at h
    | ok x =>
      obtain ⟨yes, seen1⟩ := x
      rw [ha] at h
      cases yes with
      | false => simp [bind, Except.bind, pure, Except.pure] at h; omega
      | true =>
        simp [bind, Except.bind] at h
        have := ih _ _ _ _ _ h
        omega

theorem run_agree {code t t' : Array Nat} {i lim : Nat} (hag : ∀ k, k < lim → t'.getD k 0 = t.getD k 0) :
    ∀ n n' p found seen r seen', run code t i n p found seen = .ok (r, seen') → p + (r - found) < lim → r - found < n → r - found < n' → run code t' i n' p found seen = .ok (r, seen') := by
  intro n
  induction n with
  | zero => intro n' p found seen r seen' h h1 h2; omega
  | succ n ih =>
    intro n' p found seen r seen' h h1 h2 h3
    cases n' with
    | zero => omega
    | succ n' =>
      simp only [run] at h ⊢
      have hp : p < lim := by omega
      rw [hag p hp]
      cases ha : accepts code i (t.getD p 0) seen with
      | error e => rw [ha] at h; simp [bind, Except.bind] at h
      | ok x =>
        obtain ⟨yes, seen1⟩ := x
        rw [ha] at h
        cases yes with
        | false => simpa [bind, Except.bind, pure, Except.pure] using h
        | true =>
          simp only [bind, Except.bind] at h ⊢
          simp only [if_true] at h ⊢
          have hg := run_ge _ _ _ _ _ _ h
          exact ih n' (p + 1) (found + 1) seen1 r seen' h (by omega) (by omega) (by omega)

theorem ifc {α : Sort _} {c d : Prop} [Decidable c] [Decidable d] (h : c ↔ d) {a b a' b' : α} (h1 : a = a') (h2 : b = b') : ite c a b = ite d a' b' := by
  subst h1 h2
  by_cases hc : c
  · rw [if_pos hc, if_pos (h.mp hc)]
  · rw [if_neg hc, if_neg (fun q => hc (h.mpr q))]
theorem lift_ite (t : Array Nat) (l ls : Nat) {c : Prop} [Decidable c] (a b : M) : lift t l ls (if c then a else b) = if c then lift t l ls a else lift t l ls b := by
  split <;> rfl
theorem lift_attempt (t : Array Nat) (l ls : Nat) (m : M) (f : Frame) (a b : Nat) (o : Bool) : (lift t l ls m).attempt f a b o = lift t l ls (m.attempt f a b o) := by
  unfold attempt
  rw [lift_ite]
  exact ifc Iff.rfl rfl rfl
theorem lift_round (t : Array Nat) (l ls : Nat) (m : M) (wt : Wait) (i : Nat) (c : Int) (g : Bool) (k : Kept) : (lift t l ls m).round wt i c g k = lift t l ls (m.round wt i c g k) := by
  exact lift_attempt t l ls (m.setLoop i fun l => { l with count := c, began := if g then some m.pos else l.began }) _ _ _ _
theorem lift_afterLoop (t : Array Nat) (l ls : Nat) (m : M) (wt : Wait) (i : Nat) (c : Int) (g : Option Nat → Bool) : (lift t l ls m).afterLoop wt i c g = lift t l ls (m.afterLoop wt i c g) := by
  exact lift_attempt t l ls { m with inner := (m.loopAt i).outer } _ _ _ _
theorem lift_afterRun (t : Array Nat) (l ls : Nat) (m : M) (wt : Wait) (c : Int) (k : Kept) : (lift t l ls m).afterRun wt c k = lift t l ls (m.afterRun wt c k) := by
  exact lift_attempt t l ls m _ _ _ _
theorem lift_until (t : Array Nat) (l ls : Nat) (m : M) (g : Bool) : (lift t l ls m).until_ g = lift t l ls (m.until_ g) := by
  unfold until_
  show (match m.inner with | none => _ | some i => _) = lift t l ls (match m.inner with | none => _ | some i => _)
  cases hi : m.inner with
  | none => rfl
  | some i =>
    dsimp only
    rw [lift_ite, lift_ite, lift_ite]
    exact ifc Iff.rfl (lift_round t l ls m _ i _ _ _) (ifc Iff.rfl (lift_afterLoop t l ls m _ i _ _) (ifc Iff.rfl (lift_round t l ls m _ i _ _ _) (lift_afterLoop t l ls m _ i _ _)))
theorem lift_resume (t : Array Nat) (l ls : Nat) (m : M) (f : Frame) (yes : Bool)
    (h : (match f.wait with | .nextStart => yes | .giveBack | .closeLoop | .maxBelow | .maxMore | .maxTail => true | _ => false) = true) :
    (lift t l ls m).resume f yes = lift t l ls (m.resume f yes) := by
  unfold resume
  cases hw : f.wait <;> rw [hw] at h <;> (try (exact absurd h Bool.false_ne_true)) <;> dsimp only
  · cases yes with
    | false => cases h
    | true => rfl
  · cases yes with
    | true => rfl
    | false =>
      simp only [Bool.false_eq_true, if_false]
      rw [lift_ite]
      exact ifc Iff.rfl rfl (lift_afterRun t l ls { m.putBack f.kept with pos := f.pos - 1 } _ _ _)
  · rfl
  · cases yes <;> rfl
  · cases yes with
    | true => rfl
    | false =>
      simp only [Bool.false_eq_true, if_false]
      exact lift_afterLoop t l ls ((((m.setLoop f.loop fun l => { l with began := f.began }).putBack f.kept).setLoop f.loop fun l => { l with count := f.count - 1 })) _ _ _ _
  · rfl

/-- what okStep asks of an instruction -/
def okOp (m : M) : Bool :=
  match ops[m.word 0]? with
  | none => true
  | some op => match op with
    | .FAILURE | .JUMP | .INFO | .MARK | .REPEAT | .MAX_UNTIL => true
    | .SUCCESS => !m.wholeText
    | .ANY | .LITERAL | .IN => decide (m.pos < m.lim)
    | .AT => m.word 1 == 0
    | .REPEAT_ONE => decide ((m.word 2 : Int) ≤ (m.lim : Int) - m.pos) && (match run m.code m.text (m.pc + 4) (min (m.word 3) ((m.lim : Int) - m.pos).toNat) m.pos 0 ((m.seen.add (m.word 0)).add (m.word 4)) with
      | .error _ => false
      | .ok (n, _) => decide (m.pos + n < m.lim ∧ n < m.word 3))
    | _ => false

theorem lift_one (t : Array Nat) (l ls : Nat) (m : M) (hag : t.getD m.pos 0 = m.text.getD m.pos 0) (hp : m.pos < m.lim) (hl : m.lim ≤ l) :
    (if (lift t l ls m).pos ≥ (lift t l ls m).lim then (lift t l ls m).say false else
      match accepts (lift t l ls m).code (lift t l ls m).pc ((lift t l ls m).text.getD (lift t l ls m).pos 0) (lift t l ls m).seen with
      | .error why => (lift t l ls m).stick why
      | .ok (false, seen) => { lift t l ls m with seen }.say false
      | .ok (true, seen) => { lift t l ls m with seen, pc := (lift t l ls m).pc + itemWidth (lift t l ls m).code (lift t l ls m).pc, pos := (lift t l ls m).pos + 1 })
    = lift t l ls (if m.pos ≥ m.lim then m.say false else
      match accepts m.code m.pc (m.text.getD m.pos 0) m.seen with
      | .error why => m.stick why
      | .ok (false, seen) => { m with seen }.say false
      | .ok (true, seen) => { m with seen, pc := m.pc + itemWidth m.code m.pc, pos := m.pos + 1 }) := by
  have h1 : ¬ (m.pos ≥ m.lim) := by omega
  have h2 : ¬ ((lift t l ls m).pos ≥ (lift t l ls m).lim) := by show ¬ (m.pos ≥ l); omega
  rw [if_neg h1, if_neg h2]
  show (match accepts m.code m.pc (t.getD m.pos 0) m.seen with | .error why => _ | .ok (false, seen) => _ | .ok (true, seen) => _) = _
  rw [hag]
  cases accepts m.code m.pc (m.text.getD m.pos 0) m.seen with
  | error e => rfl
  | ok x => obtain ⟨b, sn⟩ := x; cases b <;> rfl

theorem lift_exec (t : Array Nat) (l ls : Nat) (m : M) (hag : ∀ k, k < m.lim → t.getD k 0 = m.text.getD k 0) (hl : m.lim ≤ l) (h : okOp m = true) :
    (lift t l ls m).exec = lift t l ls m.exec := by
  unfold okOp at h
  unfold exec
  show (match ops[m.word 0]? with | none => _ | some op => _) = lift t l ls (match ops[m.word 0]? with | none => _ | some op => _)
  cases hop : ops[m.word 0]? with
  | none => rfl
  | some op =>
    rw [hop] at h
    dsimp only at h ⊢
    cases op <;> (try (exact absurd h Bool.false_ne_true)) <;> dsimp only at h ⊢
    case FAILURE => rfl
    case JUMP => rfl
    case INFO => rfl
    case MARK => rfl
    case SUCCESS =>
      have hw : m.wholeText = false := by simpa using h
      show (if (m.outermost && ((m.wholeText && m.pos != l) || (m.mustAdvance && m.pos == m.start))) = true then _ else _) = lift t l ls (if (m.outermost && ((m.wholeText && m.pos != m.lim) || (m.mustAdvance && m.pos == m.start))) = true then _ else _)
      rw [hw, lift_ite]
      exact ifc Iff.rfl rfl rfl
    case ANY => exact lift_one t l ls { m with seen := m.seen.add (m.word 0) } (hag _ (of_decide_eq_true h)) (of_decide_eq_true h) hl
    case LITERAL => exact lift_one t l ls { m with seen := m.seen.add (m.word 0) } (hag _ (of_decide_eq_true h)) (of_decide_eq_true h) hl
    case IN => exact lift_one t l ls { m with seen := m.seen.add (m.word 0) } (hag _ (of_decide_eq_true h)) (of_decide_eq_true h) hl
    case AT =>
      have hw : m.word 1 = 0 := by simpa using h
      show (match (lift t l ls { m with seen := m.seen.add (m.word 0) }).isAt (m.word 1) with | .error why => _ | .ok yes => _) = lift t l ls (match ({ m with seen := m.seen.add (m.word 0) } : M).isAt (m.word 1) with | .error why => _ | .ok yes => _)
      rw [hw]
      show (if (m.pos == 0) = true then _ else _) = lift t l ls (if (m.pos == 0) = true then _ else _)
      rw [lift_ite]
      exact ifc Iff.rfl rfl rfl
    case REPEAT => exact lift_attempt t l ls { m with seen := m.seen.add (m.word 0), loops := m.loops.push { pc := m.pc, outer := m.inner }, inner := some m.loops.size } _ _ _ _
    case MAX_UNTIL => exact lift_until t l ls { m with seen := m.seen.add (m.word 0), pc := m.pc + 1 } true
    case REPEAT_ONE =>
      obtain ⟨h1, h2⟩ := Bool.and_eq_true_iff.mp h
      have h1 := of_decide_eq_true h1
      have c1 : ¬ ((m.word 2 : Int) > (m.lim : Int) - m.pos) := by omega
      have c2 : ¬ ((m.word 2 : Int) > (l : Int) - m.pos) := by omega
      show (if (m.word 2 : Int) > (l : Int) - m.pos then _ else _) = lift t l ls (if (m.word 2 : Int) > (m.lim : Int) - m.pos then _ else _)
      rw [if_neg c1, if_neg c2]
      show (match run m.code t (m.pc + 4) (min (m.word 3) ((l : Int) - m.pos).toNat) m.pos 0 ((m.seen.add (m.word 0)).add (m.word 4)) with | .error why => _ | .ok (n, seen) => _) =
        lift t l ls (match run m.code m.text (m.pc + 4) (min (m.word 3) ((m.lim : Int) - m.pos).toNat) m.pos 0 ((m.seen.add (m.word 0)).add (m.word 4)) with | .error why => _ | .ok (n, seen) => _)
      cases hr : run m.code m.text (m.pc + 4) (min (m.word 3) ((m.lim : Int) - m.pos).toNat) m.pos 0 ((m.seen.add (m.word 0)).add (m.word 4)) with
      | error e => rw [hr] at h2; cases h2
      | ok x =>
        obtain ⟨n, sn⟩ := x
        rw [hr] at h2
        obtain ⟨h3, h4⟩ := of_decide_eq_true h2
        have hb := run_ge _ _ _ _ _ _ hr
        rw [run_agree hag _ (min (m.word 3) ((l : Int) - m.pos).toNat) _ _ _ _ _ hr (by omega) (by omega) (by omega)]
        dsimp only
        show (if n < m.word 2 then _ else _) = lift t l ls (if n < m.word 2 then _ else _)
        rw [lift_ite]
        refine ifc Iff.rfl rfl ?_
        exact lift_afterRun t l ls { m with seen := sn, pos := m.pos + n } _ _ _

/-- the step looks at no sign beyond the text at hand -/
def okStep (m : M) : Bool :=
  match m.outcome with
  | some _ => true
  | none => match m.answer with
    | some yes => (match m.frames with
      | [] => true
      | f :: _ => (match f.wait with
        | .nextStart => yes
        | .giveBack | .closeLoop | .maxBelow | .maxMore | .maxTail => true
        | _ => false))
    | none => if m.pc < m.code.size then okOp m else true
theorem lift_step (t : Array Nat) (l ls : Nat) (m : M) (hag : ∀ k, k < m.lim → t.getD k 0 = m.text.getD k 0) (hl : m.lim ≤ l) (h : okStep m = true) :
    (lift t l ls m).step = lift t l ls m.step := by
  unfold step
  by_cases ho : m.outcome.isSome = true
  · rw [if_pos ho, if_pos ho]
  · rw [lift_ite]
    refine ifc Iff.rfl rfl ?_
    have e : m.outcome = none := by cases q : m.outcome with | none => rfl | some _ => rw [q] at ho; exact absurd rfl ho
    unfold okStep at h
    rw [e] at h
    dsimp only at h
    cases ha : m.answer with
    | some yes =>
      rw [ha] at h
      cases hf : m.frames with
      | nil => rfl
      | cons f rest =>
        rw [hf] at h
        exact lift_resume t l ls { m with answer := none, frames := rest, weight := m.weight - (1 + f.kept.marks.size), pc := f.pc, pos := f.pos, outermost := f.outermost } f yes h
    | none =>
      rw [ha] at h
      dsimp only at h ⊢
      rw [lift_ite]
      by_cases hp : m.pc < m.code.size
      · rw [if_pos hp] at h
        exact ifc Iff.rfl (lift_exec t l ls m hag hl h) rfl
      · rw [if_neg hp, if_neg hp]; rfl

def okRun : Nat → M → Bool
  | 0, _ => true
  | n + 1, m => m.outcome.isSome || (okStep m && (m.step.text == m.text && (m.step.lim == m.lim && okRun n m.step)))
theorem lift_run (t : Array Nat) (l ls : Nat) : ∀ (n : Nat) (m : M), (∀ k, k < m.lim → t.getD k 0 = m.text.getD k 0) → m.lim ≤ l → okRun n m = true → runFor n (lift t l ls m) = lift t l ls (runFor n m) := by
  intro n
  induction n with
  | zero => intro m _ _ _; rfl
  | succ n ih =>
    intro m hag hl h
    show (if m.outcome.isSome = true then _ else _) = lift t l ls (if m.outcome.isSome = true then _ else _)
    by_cases ho : m.outcome.isSome = true
    · rw [if_pos ho, if_pos ho]
    · rw [if_neg ho, if_neg ho]
      unfold okRun at h
      have ho' : m.outcome.isSome = false := by simpa using ho
      rw [ho', Bool.false_or, Bool.and_eq_true, Bool.and_eq_true, Bool.and_eq_true] at h
      obtain ⟨h1, h2, h3, h4⟩ := h
      have h2 : m.step.text = m.text := by simpa using h2
      have h3 : m.step.lim = m.lim := by simpa using h3
      rw [lift_step t l ls m hag hl h1]
      exact ih m.step (by rw [h2, h3]; exact hag) (by rw [h3]; exact hl) h4

theorem runFor_done : ∀ (n : Nat) (m : M), m.outcome.isSome = true → runFor n m = m
  | 0, _, _ => rfl
  | n + 1, m, h => by unfold runFor; rw [if_pos h]
theorem runFor_add : ∀ (a b : Nat) (m : M), runFor (a + b) m = runFor b (runFor a m)
  | 0, b, m => by rw [Nat.zero_add]; rfl
  | a + 1, b, m => by
    rw [Nat.add_right_comm]
    by_cases h : m.outcome.isSome = true
    · rw [runFor_done _ m h, runFor_done _ m h, runFor_done _ m h]
    · show (if m.outcome.isSome = true then m else runFor (a + b) m.step) = runFor b (if m.outcome.isSome = true then m else runFor a m.step)
      rw [if_neg h, if_neg h]
      exact runFor_add a b m.step

/-- where a search may last begin -/
def lastOf (code : Array Nat) (pos lim : Nat) : Nat :=
  if (header code).1 > 1 && !((header code).2 != 0 && code.getD 2 0 &&& 5 != 0) then max pos (lim - ((header code).1 - 1)) else lim
def noFirst (code : Array Nat) : Bool := !((match ops[code.getD 0 0]? with | some .INFO => true | _ => false) && code.getD 2 0 == 4)
theorem attemptFrom_plain (m : M) (s : Nat) (first : Bool) (hf : noFirst m.code = true) : m.attemptFrom s first = m.attemptAt s first := by
  unfold attemptFrom
  exact if_pos hf
theorem search_room {pos l least : Nat} (h : pos + least ≤ l) : ¬ ((decide (pos > l) || decide (l - pos < least)) = true) := by
  simp only [Bool.or_eq_true, decide_eq_true_eq]; omega
theorem forSearch_lift (code t t0 : Array Nat) (groups pos l l0 : Nat) (must : Bool) (hf : noFirst code = true) (h : pos + (header code).1 ≤ l) (h0 : pos + (header code).1 ≤ l0) :
    forSearch code t groups pos l must = lift t l (lastOf code pos l) (forSearch code t0 groups pos l0 must) := by
  unfold forSearch
  dsimp only
  rw [if_neg (search_room h), if_neg (search_room h0)]
  rw [attemptFrom_plain _ _ _ hf, attemptFrom_plain _ _ _ hf]
  unfold attemptAt
  rw [← lift_attempt]
  rfl
/-- between two starts of a search -/
structure AtStart (m : M) (p : Nat) : Prop where
  out : m.outcome = none
  ans : m.answer = some false
  frm : ∃ f, m.frames = [f] ∧ f.wait = .nextStart ∧ f.pos = p ∧ f.kept.marks = #[] ∧ m.code.getD f.pc 0 = 6 ∧ m.code.getD (f.pc + 1) 0 = 0 ∧ f.pc < m.code.size
  wgt : m.weight ≤ 1
  fst : noFirst m.code = true
def popped (m : M) (f : Frame) : M := { m with answer := none, frames := [], weight := m.weight - (1 + f.kept.marks.size), pc := f.pc, pos := f.pos, outermost := f.outermost }
theorem step_pop {m : M} {f : Frame} (out : m.outcome = none) (ans : m.answer = some false) (hf : m.frames = [f]) : m.step = (popped m f).resume f false := by
  unfold step
  rw [if_neg (by rw [out]; exact Bool.false_ne_true), ans, hf]
  rfl
def restart (m : M) (f : Frame) (p : Nat) : M :=
  { popped m f with mustAdvance := false, start := p, pos := p, lastmark := -1, lastindex := -1, frames := [{ wait := .nextStart, pc := f.pc, pos := p, outermost := false }], weight := (popped m f).weight + 1 + 0, pc := f.pc, handed := p, outermost := false }
theorem atStart_next {m : M} {p : Nat} (H : AtStart m p) (hp : p < m.lastStart) : AtStart (runFor 2 m) (p + 1) ∧ (runFor 2 m).lastStart = m.lastStart := by
  obtain ⟨out, ans, ⟨f, hf, hw, hpos, hk, hc, hc1, hlt⟩, wgt, fst⟩ := H
  have s1 : m.step = restart m f (p + 1) := by
    rw [step_pop out ans hf]
    unfold resume
    rw [hw]
    dsimp only
    rw [if_neg Bool.false_ne_true, if_pos (show f.pos < (popped m f).lastStart from hpos ▸ hp)]
    rw [attemptFrom_plain ({ popped m f with mustAdvance := false } : M) _ _ (show noFirst m.code = true from fst), hpos]
    unfold attemptAt attempt
    rw [if_neg (by show ¬ ((m.weight - (1 + f.kept.marks.size)) + 1 + 0 > 16777216); omega)]
    rfl
  have o1 : ¬ ((restart m f (p + 1)).outcome.isSome = true) := by show ¬ (m.outcome.isSome = true); rw [out]; exact Bool.false_ne_true
  have s2 : ∃ sn, (restart m f (p + 1)).step = ({ restart m f (p + 1) with seen := sn } : M).say false := by
    refine ⟨((restart m f (p + 1)).seen.add 6).add (43 + 0), ?_⟩
    have w0 : (restart m f (p + 1)).word 0 = 6 := hc
    have w1 : ({ restart m f (p + 1) with seen := (restart m f (p + 1)).seen.add 6 } : M).word 1 = 0 := hc1
    unfold step
    rw [if_neg o1]
    show (if f.pc < m.code.size then (restart m f (p + 1)).exec else _) = _
    rw [if_pos hlt]
    unfold exec
    rw [w0]
    show (match (({ restart m f (p + 1) with seen := (restart m f (p + 1)).seen.add 6 } : M)).isAt (({ restart m f (p + 1) with seen := (restart m f (p + 1)).seen.add 6 } : M).word 1) with
      | .error why => _
      | .ok yes => if yes = true then _ else ({ restart m f (p + 1) with seen := ((restart m f (p + 1)).seen.add 6).add (43 + ({ restart m f (p + 1) with seen := (restart m f (p + 1)).seen.add 6 } : M).word 1) } : M).say false) = _
    rw [w1]
    show (if ((p + 1) == 0) = true then _ else _) = _
    rw [if_neg (by simp)]
  obtain ⟨sn, s2⟩ := s2
  have r2 : runFor 2 m = (restart m f (p + 1)).step := by
    show (if m.outcome.isSome = true then m else (if m.step.outcome.isSome = true then m.step else m.step.step)) = _
    rw [if_neg (by rw [out]; exact Bool.false_ne_true), s1, if_neg o1]
  rw [r2, s2]
  exact ⟨⟨out, rfl, ⟨_, rfl, rfl, rfl, rfl, hc, hc1, hlt⟩, by show m.weight - (1 + f.kept.marks.size) + 1 + 0 ≤ 1; omega, fst⟩, rfl⟩
theorem atStart_last {m : M} {p : Nat} (H : AtStart m p) (hp : m.lastStart ≤ p) : (runFor 2 m).outcome = some .failed := by
  obtain ⟨out, ans, ⟨f, hf, hw, hpos, hk, hc, hc1, hlt⟩, wgt, fst⟩ := H
  have s1 : m.step = (popped m f).say false := by
    rw [step_pop out ans hf]
    unfold resume
    rw [hw]
    dsimp only
    rw [if_neg Bool.false_ne_true, if_neg (show ¬ (f.pos < (popped m f).lastStart) from fun q => by have : f.pos < m.lastStart := q; omega)]
  have o1 : ¬ (((popped m f).say false).outcome.isSome = true) := by show ¬ (m.outcome.isSome = true); rw [out]; exact Bool.false_ne_true
  have r2 : runFor 2 m = ((popped m f).say false).step := by
    show (if m.outcome.isSome = true then m else (if m.step.outcome.isSome = true then m.step else m.step.step)) = _
    rw [if_neg (by rw [out]; exact Bool.false_ne_true), s1, if_neg o1]
  rw [r2]
  unfold step
  rw [if_neg o1]
  rfl
theorem atStart_fails : ∀ (k : Nat) (m : M) (p : Nat), AtStart m p → m.lastStart ≤ p + k → (runFor (2 * k + 2) m).outcome = some .failed
  | 0, m, p, H, h => atStart_last H (by omega)
  | k + 1, m, p, H, h => by
    by_cases hp : m.lastStart ≤ p
    · have := atStart_last H hp
      rw [show 2 * (k + 1) + 2 = 2 + (2 * k + 2) by omega, runFor_add, runFor_done _ _ (by rw [this]; rfl)]
      exact this
    · obtain ⟨H', e⟩ := atStart_next H (by omega)
      rw [show 2 * (k + 1) + 2 = 2 + (2 * k + 2) by omega, runFor_add]
      exact atStart_fails k _ (p + 1) H' (by rw [e]; omega)

/-- what a search of the whole text says: nothing, or where the match lies and its marks -/
structure Hit where
  start : Nat
  handed : Nat
  lastmark : Int
  lastindex : Int
  marks : List (Option Nat)
deriving DecidableEq
def hitOf (m : M) : Hit := ⟨m.start, m.handed, m.lastmark, m.lastindex, m.marks.toList⟩
/-- within so many steps the machine ends, and so -/
def Ends (m : M) (n : Nat) (r : Option Hit) : Prop :=
  match r with
  | none => (runFor n m).outcome = some .failed
  | some x => (runFor n m).outcome = some .matched ∧ hitOf (runFor n m) = x
def endsB (m : M) (n : Nat) (x : Hit) : Bool :=
  (match (runFor n m).outcome with | some .matched => true | _ => false) && decide (hitOf (runFor n m) = x)

def atStartB (m : M) (p : Nat) : Bool :=
  m.outcome.isNone && (m.answer == some false) && (match m.frames with
    | [f] => (match f.wait with | .nextStart => true | _ => false) && f.pos == p && f.kept.marks.isEmpty && m.code.getD f.pc 0 == 6 && m.code.getD (f.pc + 1) 0 == 0 && decide (f.pc < m.code.size)
    | _ => false) && decide (m.weight ≤ 1) && noFirst m.code
theorem atStart_of {m : M} {p : Nat} (h : atStartB m p = true) : AtStart m p := by
  unfold atStartB at h
  simp only [Bool.and_eq_true] at h
  obtain ⟨⟨⟨⟨h1, h2⟩, h3⟩, h4⟩, h5⟩ := h
  refine ⟨by simpa using h1, by simpa using h2, ?_, by simpa using h4, h5⟩
  split at h3
  · rename_i f hf
    simp only [Bool.and_eq_true] at h3
    obtain ⟨⟨⟨⟨⟨a, b⟩, c⟩, d⟩, e⟩, g⟩ := h3
    refine ⟨f, hf, ?_, by simpa using b, by simpa using c, by simpa using d, by simpa using e, by simpa using g⟩
    cases hw : f.wait <;> rw [hw] at a <;> first | rfl | cases a
  · cases h3

theorem agree_pre (pre rest : List Nat) : ∀ k, k < pre.length → (pre ++ rest).toArray.getD k 0 = pre.toArray.getD k 0 := by
  intro k hk
  simp [Array.getD, hk, List.getElem_append_left, Nat.lt_of_lt_of_le hk (Nat.le_add_right _ _)]

/-- a match that lies within the known beginning -/
theorem search_hit (code : Array Nat) (groups pos : Nat) (pre rest : List Nat) (n : Nat) (x : Hit) (hf : noFirst code = true) (h0 : pos + (header code).1 ≤ pre.length)
    (hk : okRun n (forSearch code pre.toArray groups pos pre.length false) = true) (ht : (forSearch code pre.toArray groups pos pre.length false).text = pre.toArray) (hl : (forSearch code pre.toArray groups pos pre.length false).lim = pre.length)
    (he : endsB (forSearch code pre.toArray groups pos pre.length false) n x = true) :
    Ends (forSearch code (pre ++ rest).toArray groups pos (pre ++ rest).length false) n (some x) := by
  rw [forSearch_lift code _ pre.toArray groups pos _ pre.length false hf (by rw [List.length_append]; omega) h0]
  unfold Ends
  dsimp only
  rw [lift_run _ _ _ n _ (by rw [ht, hl]; exact agree_pre pre rest) (by rw [hl, List.length_append]; omega) hk]
  unfold endsB at he
  obtain ⟨h1, h2⟩ := Bool.and_eq_true_iff.mp he
  refine ⟨?_, of_decide_eq_true h2⟩
  show (runFor n _).outcome = _
  cases ho : (runFor n (forSearch code pre.toArray groups pos pre.length false)).outcome with
  | none => rw [ho] at h1; cases h1
  | some o => rw [ho] at h1; cases o <;> first | rfl | cases h1

/-- no match at the start of the search, and so none -/
theorem search_miss (code : Array Nat) (groups pos : Nat) (pre rest : List Nat) (n : Nat) (hf : noFirst code = true) (h0 : pos + (header code).1 ≤ pre.length)
    (hk : okRun n (forSearch code pre.toArray groups pos pre.length false) = true) (ht : (forSearch code pre.toArray groups pos pre.length false).text = pre.toArray) (hl : (forSearch code pre.toArray groups pos pre.length false).lim = pre.length)
    (he : atStartB (runFor n (forSearch code pre.toArray groups pos pre.length false)) pos = true) :
    Ends (forSearch code (pre ++ rest).toArray groups pos (pre ++ rest).length false) (n + (2 * (pre ++ rest).length + 2)) none := by
  rw [forSearch_lift code _ pre.toArray groups pos _ pre.length false hf (by rw [List.length_append]; omega) (by omega)]
  unfold Ends
  dsimp only
  rw [runFor_add, lift_run _ _ _ n _ (by rw [ht, hl]; exact agree_pre pre rest) (by rw [hl, List.length_append]; omega) hk]
  obtain ⟨a, b, c, d, e⟩ := atStart_of he
  refine atStart_fails _ _ pos ⟨a, b, c, d, e⟩ ?_
  show lastOf code pos _ ≤ _
  have : pos ≤ (pre ++ rest).length := by rw [List.length_append]; omega
  unfold lastOf
  split <;> omega

def hitCheck (code : Array Nat) (groups pos : Nat) (pre : List Nat) (n : Nat) (x : Hit) : Bool :=
  let m := forSearch code pre.toArray groups pos pre.length false
  noFirst code && (decide (pos + (header code).1 ≤ pre.length) && (okRun n m && ((m.text == pre.toArray) && ((m.lim == pre.length) && endsB m n x))))
theorem hit_of {code : Array Nat} {groups pos : Nat} {pre : List Nat} {n : Nat} {x : Hit} (h : hitCheck code groups pos pre n x = true) (rest : List Nat) :
    Ends (forSearch code (pre ++ rest).toArray groups pos (pre ++ rest).length false) n (some x) := by
  unfold hitCheck at h
  simp only [Bool.and_eq_true] at h
  obtain ⟨a, b, c, d, e, f⟩ := h
  exact search_hit code groups pos pre rest n x a (of_decide_eq_true b) c (by simpa using d) (by simpa using e) f
def missCheck (code : Array Nat) (groups pos : Nat) (pre : List Nat) (n : Nat) : Bool :=
  let m := forSearch code pre.toArray groups pos pre.length false
  noFirst code && (decide (pos + (header code).1 ≤ pre.length) && (okRun n m && ((m.text == pre.toArray) && ((m.lim == pre.length) && atStartB (runFor n m) pos))))
theorem miss_of {code : Array Nat} {groups pos : Nat} {pre : List Nat} {n : Nat} (h : missCheck code groups pos pre n = true) (rest : List Nat) :
    Ends (forSearch code (pre ++ rest).toArray groups pos (pre ++ rest).length false) (n + (2 * (pre ++ rest).length + 2)) none := by
  unfold missCheck at h
  simp only [Bool.and_eq_true] at h
  obtain ⟨a, b, c, d, e, f⟩ := h
  exact search_miss code groups pos pre rest n a (of_decide_eq_true b) c (by simpa using d) (by simpa using e) f
def wholeCheck (code : Array Nat) (groups pos : Nat) (t : List Nat) (n : Nat) (x : Hit) : Bool := endsB (forSearch code t.toArray groups pos t.length false) n x
theorem ends_of_B {m : M} {n : Nat} {x : Hit} (h : endsB m n x = true) : Ends m n (some x) := by
  unfold endsB at h
  obtain ⟨h1, h2⟩ := Bool.and_eq_true_iff.mp h
  refine ⟨?_, of_decide_eq_true h2⟩
  cases ho : (runFor n m).outcome with
  | none => rw [ho] at h1; cases h1
  | some o => rw [ho] at h1; cases o <;> first | rfl | cases h1

/-- a pattern's code, out of the program -/
def codeOf (i : Nat) : Array Nat :=
  match PySem.Challenge.pw_ik0003_01.main.body[i]? with
  | some (.Assign _ (.Call _ (_ :: _ :: .List es _ :: _) _ _) _) => (es.map fun e => match e with | .Constant (.int n) _ _ => n.toNat | _ => 0).toArray
  | _ => #[]
def cTwin : Array Nat := codeOf 2
def cTok : Array Nat := codeOf 4
def cQuo : Array Nat := codeOf 5
def cVal : Array Nat := codeOf 6
def cEsc : Array Nat := codeOf 7
def cJt : Array Nat := codeOf 9
def cJe : Array Nat := codeOf 10

def keyL : Bool → List Nat
  | false => [97]
  | true => [66, 99]
inductive PV | non | xy | emp | semi | esc
deriving DecidableEq
def rawL : PV → List Nat
  | .semi => [121, 59, 32, 122, 61, 44, 32]
  | .esc => [92, 92, 92, 34]
  | _ => []
def leadL : Bool → List Nat
  | false => []
  | true => [32]

theorem tok_checks : ([false, true].all fun l => [false, true].all fun k => [61, 59, 44].all fun d => hitCheck cTok 1 0 (leadL l ++ keyL k ++ [d]) 200 ⟨0, (leadL l ++ keyL k).length, 1, 1, [some (leadL l).length, some (leadL l ++ keyL k).length]⟩) = true := by decide +kernel
theorem tok_ends : ([false, true].all fun l => [false, true].all fun k => wholeCheck cTok 1 0 (leadL l ++ keyL k) 200 ⟨0, (leadL l ++ keyL k).length, 1, 1, [some (leadL l).length, some (leadL l ++ keyL k).length]⟩) = true := by decide +kernel
theorem tok_miss : ([59, 44].all fun d => missCheck cTok 1 0 [d] 5) = true := by decide +kernel
theorem quo_miss1 : ([59, 44].all fun d => [97, 66].all fun k => missCheck cQuo 1 0 [d, 32, k] 4) = true := by decide +kernel
theorem quo_miss2 : missCheck cQuo 1 0 [61, 120, 89] 7 = true := by decide +kernel
theorem val_miss : ([59, 44].all fun d => missCheck cVal 1 0 [d] 4) = true := by decide +kernel
theorem twin_hit : ([97, 66].all fun k => hitCheck cTwin 0 0 [59, 32, k] 100 ⟨0, 2, -1, -1, []⟩) = true := by decide +kernel
theorem twin_miss : ([97, 66].all fun k => missCheck cTwin 0 2 [59, 32, k] 1) = true := by decide +kernel
theorem quo_hit : ([PV.emp, PV.semi, PV.esc].all fun v => hitCheck cQuo 1 0 ([61, 34] ++ rawL v ++ [34]) 200 ⟨0, (rawL v).length + 3, 1, 1, [some 2, some ((rawL v).length + 2)]⟩) = true := by decide +kernel
theorem val_hit : ([59, 44].all fun d => hitCheck cVal 1 0 [61, 120, 89, d] 200 ⟨0, 3, 1, 1, [some 1, some 3]⟩) = true := by decide +kernel
theorem val_end : wholeCheck cVal 1 0 [61, 120, 89] 200 ⟨0, 3, 1, 1, [some 1, some 3]⟩ = true := by decide +kernel
end Mine

set_option maxHeartbeats 400000
set_option Elab.async false
set_option maxRecDepth 100000
set_option profiler true
set_option profiler.threshold 1000
namespace Mine
open PySem PySem.Calls PyProof.Rows PySem.W

theorem slot_search : Slot "re.Pattern" "search" "re.Pattern.search" := .of (owner := "re.Pattern") (n := "search") (by rw [typeLookup_type, builtinLookup_eq_fast]; kernel_rfl) (by decide +kernel) (by decide +kernel) (by decide +kernel) (.inr (by decide +kernel)) (by rw [isSubtype_type]; kernel_rfl)
theorem slot_fullmatch : Slot "re.Pattern" "fullmatch" "re.Pattern.fullmatch" := .of (owner := "re.Pattern") (n := "fullmatch") (by rw [typeLookup_type, builtinLookup_eq_fast]; kernel_rfl) (by decide +kernel) (by decide +kernel) (by decide +kernel) (.inr (by decide +kernel)) (by rw [isSubtype_type]; kernel_rfl)
theorem slot_sub : Slot "re.Pattern" "sub" "re.Pattern.sub" := .of (owner := "re.Pattern") (n := "sub") (by rw [typeLookup_type, builtinLookup_eq_fast]; kernel_rfl) (by decide +kernel) (by decide +kernel) (by decide +kernel) (.inr (by decide +kernel)) (by rw [isSubtype_type]; kernel_rfl)
theorem slot_subn : Slot "re.Pattern" "subn" "re.Pattern.subn" := .of (owner := "re.Pattern") (n := "subn") (by rw [typeLookup_type, builtinLookup_eq_fast]; kernel_rfl) (by decide +kernel) (by decide +kernel) (by decide +kernel) (.inr (by decide +kernel)) (by rw [isSubtype_type]; kernel_rfl)
theorem slot_span : Slot "re.Match" "span" "re.Match.span" := .of (owner := "re.Match") (n := "span") (by rw [typeLookup_type, builtinLookup_eq_fast]; kernel_rfl) (by decide +kernel) (by decide +kernel) (by decide +kernel) (.inr (by decide +kernel)) (by rw [isSubtype_type]; kernel_rfl)
theorem slot_group : Slot "re.Match" "group" "re.Match.group" := .of (owner := "re.Match") (n := "group") (by rw [typeLookup_type, builtinLookup_eq_fast]; kernel_rfl) (by decide +kernel) (by decide +kernel) (by decide +kernel) (.inr (by decide +kernel)) (by rw [isSubtype_type]; kernel_rfl)
theorem entry_search : entryFor table "re.Pattern.search" = some Builtin.«re.Pattern.search» := entryFor_of_tree (by kernel_rfl)
theorem entry_fullmatch : entryFor table "re.Pattern.fullmatch" = some Builtin.«re.Pattern.fullmatch» := entryFor_of_tree (by kernel_rfl)
theorem entry_sub : entryFor table "re.Pattern.sub" = some Builtin.«re.Pattern.sub» := entryFor_of_tree (by kernel_rfl)
theorem entry_subn : entryFor table "re.Pattern.subn" = some Builtin.«re.Pattern.subn» := entryFor_of_tree (by kernel_rfl)
theorem entry_subloop : entryFor table "re.Pattern.sub.loop" = some Builtin.«re.Pattern.sub.loop» := entryFor_of_tree (by kernel_rfl)
theorem entry_span : entryFor table "re.Match.span" = some Builtin.«re.Match.span» := entryFor_of_tree (by kernel_rfl)
theorem entry_group : entryFor table "re.Match.group" = some Builtin.«re.Match.group» := entryFor_of_tree (by kernel_rfl)
theorem pa_pattern : PlainAttrs "re.Pattern" :=
  ⟨⟨"object.__getattribute__", by rw [typeLookup_type, builtinLookup_eq_fast]; kernel_rfl, by decide +kernel⟩, by rw [typeLookup_type, builtinLookup_eq_fast]; kernel_rfl⟩
theorem pa_match : PlainAttrs "re.Match" :=
  ⟨⟨"object.__getattribute__", by rw [typeLookup_type, builtinLookup_eq_fast]; kernel_rfl, by decide +kernel⟩, by rw [typeLookup_type, builtinLookup_eq_fast]; kernel_rfl⟩
theorem ty_search : typeOf (.builtin "re.Pattern.search") = pure (.type "method_descriptor") := by kernel_rfl
end Mine

set_option maxHeartbeats 400000
set_option Elab.async false
set_option maxRecDepth 100000
namespace Mine
open PySem PySem.Calls PyProof.Rows PySem.W PySem.Builtin.Re

/-- a compiled pattern of the heap -/
structure PatAt (h : Heap) (p : Addr) (code : Array Nat) (groups : Nat) : Prop where
  obj : ∃ f0 f1 c o vs n oc, h.get? p = some o ∧ o.cls = .type "re.Pattern" ∧ o.dict = none ∧ o.data = .fields #[f0, f1, .int (groups : Int) 0, .none, .none, .ref c, .int 0 0] ∧
    h.get? c = some oc ∧ oc.data = .seq vs n ∧ (vs.map reRawOf).map (·.toNat) = code
theorem PatAt.type {h : Heap} {p : Addr} {code : Array Nat} {groups : Nat} (P : PatAt h p code groups) : ∃ o, h.get? p = some o ∧ o.cls = .type "re.Pattern" ∧ o.dict = none :=
  let ⟨_, _, _, o, _, _, _, a, b, c, _⟩ := P.obj; ⟨o, a, b, c⟩
theorem PatAt.keeps {h h' : Heap} {p : Addr} {code : Array Nat} {groups : Nat} (P : PatAt h p code groups) (k : ∀ b o, h.get? b = some o → h'.get? b = some o) : PatAt h' p code groups :=
  let ⟨f0, f1, c, o, vs, n, oc, a, b, d, e, f, g⟩ := P.obj
  ⟨f0, f1, c, o, vs, n, oc, k _ _ a, b, d, e, k _ _ f, g⟩

section
variable {prog : Program} {w : World} {A : Around} {E : Value → Shared → Prop} {s : Shared}

theorem drive_ends {m' : Sre.M} (hm' : m'.outcome.isSome = true) : ∀ (turns n : Nat) (m : Sre.M) {Q : Sre.M → Shared → Prop}, n + 1 ≤ 4 * turns → m.runFor n = m' → Q m' s → wpAny (model prog w) A (reDrive turns m) Q E s := by
  intro turns
  induction turns with
  | zero => intro n m Q h; omega
  | succ turns ih =>
    intro n m Q hn hr hq
    unfold reDrive
    dsimp only
    by_cases ho : (m.runFor reTurnSteps).outcome.isSome = true
    · rw [if_pos ho]
      have e : m.runFor reTurnSteps = m' := by
        by_cases h4 : n ≤ 4
        · have : (m.runFor n).runFor (4 - n) = m.runFor 4 := by rw [← Mine.runFor_add]; congr 1; omega
          rw [hr, Mine.runFor_done _ _ hm'] at this
          exact this.symm
        · have : (m.runFor 4).runFor (n - 4) = m.runFor n := by rw [← Mine.runFor_add]; congr 1; omega
          rw [hr] at this
          rw [← this]
          exact (Mine.runFor_done _ _ ho).symm
      rw [e]
      exact wpAny_pure hq
    · rw [if_neg ho]
      refine wpAny_bind (wpAny_rule ?_)
      have h4 : 4 < n := by
        apply Nat.lt_of_not_le
        intro h4
        have : (m.runFor n).runFor (4 - n) = m.runFor 4 := by rw [← Mine.runFor_add]; congr 1; omega
        rw [hr, Mine.runFor_done _ _ hm'] at this
        exact ho (by show (m.runFor 4).outcome.isSome = true; rw [← this]; exact hm')
      refine ih (n - 4) _ (by omega) ?_ hq
      show (m.runFor 4).runFor (n - 4) = m'
      rw [← Mine.runFor_add, ← hr]; congr 1; omega

theorem rules_all {m : Sre.M} {Q : PUnit → Shared → Prop} (h : Q PUnit.unit s) : ∀ (l : List Nat), wpAny (model prog w) A (forIn l PUnit.unit fun i (_ : PUnit) => (if m.seen.has i = true then (do rule (Sre.names.getD i ""); pure (ForInStep.yield PUnit.unit)) else pure (ForInStep.yield PUnit.unit))) Q E s := by
  intro l
  induction l with
  | nil => exact wpAny_pure h
  | cons i l ih =>
    rw [List.forIn_cons]
    refine wpAny_bind ?_
    by_cases hs : m.seen.has i = true
    · rw [if_pos hs]
      exact wpAny_bind (wpAny_rule (wpAny_pure ih))
    · rw [if_neg hs]
      exact wpAny_pure ih

theorem runToEnd_is {m : Sre.M} {n : Nat} {r : Option Mine.Hit} {Q : Option Sre.M → Shared → Prop} (hn : n + 1 ≤ 4 * 2 ^ 64) (h : Mine.Ends m n r)
    (hq : match r with | none => Q none s | some x => ∀ m', Mine.hitOf m' = x → Q (some m') s) : wpAny (model prog w) A (reRunToEnd m) Q E s := by
  unfold reRunToEnd
  refine wpAny_bind ?_
  cases r with
  | none =>
    have ho : (m.runFor n).outcome = some .failed := h
    refine drive_ends (by rw [ho]; rfl) (2 ^ 64) n m hn rfl ?_
    refine wpAny_bind (rules_all ?_ _)
    rw [ho]
    exact wpAny_pure hq
  | some x =>
    have ho : (m.runFor n).outcome = some .matched := h.1
    refine drive_ends (by rw [ho]; rfl) (2 ^ 64) n m hn rfl ?_
    refine wpAny_bind (rules_all ?_ _)
    rw [ho]
    exact wpAny_pure (hq _ h.2)

theorem target_is {id f : String} {p : Addr} {code : Array Nat} {groups : Nat} {x : Str} {t : Tok} {Q : ReTarget → Shared → Prop} (P : PatAt s.heap p code groups) (hx : x.cps.size < 2 ^ 62)
    (h : Q { pattern := .ref p, string := .str x t, code, text := x.cps, kind := 0, groups, pos := 0, lim := x.cps.size } s) : wpAny (model prog w) A (reTarget id f ⟨[.ref p, .str x t], []⟩) Q E s := by
  obtain ⟨f0, f1, c, o, vs, n, oc, ho, hc, hd, hdat, hoc, hcd, hcode⟩ := P.obj
  unfold reTarget
  have e1 : reNamed id f ["string", "pos", "endpos"] 1 [.str x t] [] = pure [some (.str x t), none, none] := by rfl
  dsimp only
  rw [e1]
  refine wpAny_bind (wpAny_pure ?_)
  dsimp only
  refine wpAny_bind (wpAny_pure ?_)
  refine wpAny_bind (wpAny_pure ?_)
  refine wpAny_bind (wpAny_fieldsOf ho hdat ?_)
  rw [show reTextOf (.str x t) = pure (x.cps, 0) from rfl]
  refine wpAny_bind (wpAny_pure ?_)
  dsimp only
  rw [if_neg (by show ¬ ((reRawNat (Value.int 0 0) == 0 && (0 : Nat) == 1) = true); decide), if_neg (by show ¬ ((reRawNat (Value.int 0 0) == 1 && (0 : Nat) == 0) = true); decide)]
  rw [show reNoCollectionInside (.str x t) 0 = pure PUnit.unit from rfl]
  refine wpAny_bind (wpAny_pure ?_)
  refine wpAny_bind ?_
  unfold reRawItems
  refine wpAny_bind (wpAny_seqItems hoc hcd ?_)
  refine wpAny_pure (wpAny_pure ?_)
  have e2 : (Array.map (fun x => x.toNat) (Array.map reRawOf ((some vs).getD #[]))) = code := hcode
  have e3 : min (2 ^ 63 - 1 : Int).toNat x.cps.size = x.cps.size := Nat.min_eq_right (by show x.cps.size ≤ 9223372036854775807; omega)
  have e4 : min (Int.toNat 0) x.cps.size = 0 := Nat.zero_min _
  have e5 : reRawNat (#[f0, f1, Value.int (groups : Int) 0, Value.none, Value.none, Value.ref c, Value.int 0 0].getD 2 Value.none) = groups := by show ((groups : Int)).toNat = groups; simp
  rw [e2, e3, e4, e5]
  exact h

/-- the spans that a match object bears -/
def spansOf (groups : Nat) (x : Mine.Hit) : List Value :=
  rawInt x.start :: rawInt x.handed :: (List.range groups).flatMap fun g =>
    match if ((2 * g + 1 : Nat) : Int) ≤ x.lastmark then (x.marks.getD (2 * g) none, x.marks.getD (2 * g + 1) none) else (none, none) with
    | (some b, some e) => [rawInt b, rawInt e]
    | _ => [rawInt (-1), rawInt (-1)]
def wrongSpan (groups : Nat) (x : Mine.Hit) : Bool :=
  (List.range groups).any (fun g => match x.marks.getD (2 * g) none, x.marks.getD (2 * g + 1) none with | some b, some e => ((2 * g + 1 : Nat) : Int) ≤ x.lastmark && e < b | _, _ => false)

theorem newMatch_is {pat str : Value} {groups pos lim : Nat} {m : Sre.M} {x : Mine.Hit} {Q : Value → Shared → Prop} (hm : Mine.hitOf m = x) (hg : groups ≤ 1) (hw : wrongSpan groups x = false)
    (h : Q (.ref (s.heap.push { cls := .type "tuple", data := .seq (spansOf groups x).toArray }).objs.size) { s with heap := (s.heap.push { cls := .type "tuple", data := .seq (spansOf groups x).toArray }).push { cls := .type "re.Match", data := .fields #[str, pat, rawInt pos, rawInt lim, rawInt x.lastindex, .ref s.heap.objs.size] } }) :
    wpAny (model prog w) A (reNewMatch pat str groups pos lim m) Q E s := by
  subst hm
  unfold reNewMatch
  have e : ∀ g, m.marks.getD g none = (Mine.hitOf m).marks.getD g none := fun g => by
    show m.marks.getD g none = m.marks.toList.getD g none
    simp [Array.getD_eq_getD_getElem?, List.getD_eq_getElem?_getD]
  dsimp only
  simp only [e]
  rw [if_neg (by show ¬ (wrongSpan groups (Mine.hitOf m) = true); rw [hw]; exact Bool.false_ne_true)]
  have hl : (spansOf groups (Mine.hitOf m)).length ≤ sizeLine := by
    have : groups = 0 ∨ groups = 1 := by omega
    rw [sizeLine_eq]
    rcases this with rfl | rfl
    · show 2 ≤ _; decide
    · unfold spansOf
      rw [show List.range 1 = [0] from rfl]
      simp only [List.flatMap_cons, List.flatMap_nil, List.append_nil, List.length_cons]
      split <;> simp
  refine wpAny_bind (wpAny_newTuple ?_ hl)
  refine wpAny_newObj_type h ?_
  show (#[str, pat, rawInt pos, rawInt lim, rawInt m.lastindex, Value.ref s.heap.objs.size] : Array Value).size ≤ sizeLine + 2
  rw [sizeLine_eq]
  show 6 ≤ _
  decide

def Grows (h h' : Heap) : Prop := ∀ b o, h.get? b = some o → h'.get? b = some o
theorem Grows.refl (h : Heap) : Grows h h := fun _ _ e => e
theorem Grows.trans {a b c : Heap} (x : Grows a b) (y : Grows b c) : Grows a c := fun p o e => y p o (x p o e)
theorem Grows.push (h : Heap) (o : Obj) : Grows h (h.push o) := fun _ _ e => Heap.get?_push_of_some _ e
/-- a match object of the heap -/
structure MatchAt (h : Heap) (a : Addr) (text : Str) (groups : Nat) (x : Mine.Hit) : Prop where
  obj : ∃ t pat f2 f3 f4 c o n oc, h.get? a = some o ∧ o.cls = .type "re.Match" ∧ o.dict = none ∧ o.data = .fields #[.str text t, pat, f2, f3, f4, .ref c] ∧
    h.get? c = some oc ∧ oc.data = .seq (spansOf groups x).toArray n
theorem MatchAt.keeps {h h' : Heap} {a : Addr} {text : Str} {groups : Nat} {x : Mine.Hit} (P : MatchAt h a text groups x) (k : Grows h h') : MatchAt h' a text groups x :=
  let ⟨t, pat, f2, f3, f4, c, o, n, oc, e1, e2, e3, e4, e5, e6⟩ := P.obj
  ⟨t, pat, f2, f3, f4, c, o, n, oc, k _ _ e1, e2, e3, e4, k _ _ e5, e6⟩

theorem search_call {p : Addr} {code : Array Nat} {groups n : Nat} {x : Str} {t : Tok} {r : Option Mine.Hit} {Q : Value → Shared → Prop} (P : PatAt s.heap p code groups) (hg : groups ≤ 1) (hx : x.cps.size < 2 ^ 62)
    (hn : n + 1 ≤ 4 * 2 ^ 64) (he : Mine.Ends (Sre.forSearch code x.cps groups 0 x.cps.size false) n r) (hw : ∀ y, r = some y → wrongSpan groups y = false)
    (h : match r with | none => Q .none s | some y => ∀ a h', Grows s.heap h' → s.heap.get? a = none → MatchAt h' a x groups y → Q (.ref a) { s with heap := h' }) :
    wpAny (model prog w) A (call (.builtin "re.Pattern.search") [.ref p, .str x t]) Q E s := by
  obtain ⟨o, ho, hc, hd⟩ := P.type
  refine wpAny_call_entry slot_search ⟨o, ho, hc⟩ entry_search ?_
  unfold Builtin.«re.Pattern.search»
  refine wpAny_bind (target_is P hx ?_)
  unfold reAnswer
  refine wpAny_bind (runToEnd_is hn he ?_)
  cases r with
  | none => exact wpAny_pure ⟨_, rfl, h⟩
  | some y =>
    intro m' hm'
    dsimp only
    refine wpAny_bind (newMatch_is hm' hg (hw y rfl) ?_)
    refine wpAny_pure ⟨_, rfl, h _ _ ((Grows.push _ _).trans (Grows.push _ _)) ?_ ?_⟩
    · rw [Heap.size_push]; exact Heap.get?_none_of_le (Nat.le_succ _)
    · refine ⟨t, .ref p, rawInt 0, rawInt x.cps.size, rawInt y.lastindex, s.heap.objs.size, { cls := .type "re.Match", data := .fields #[.str x t, .ref p, rawInt 0, rawInt x.cps.size, rawInt y.lastindex, .ref s.heap.objs.size] }, 0, { cls := .type "tuple", data := .seq (spansOf groups y).toArray }, ?_, rfl, rfl, rfl, Heap.get?_push_of_some _ (Heap.get?_push_size _ rfl), rfl⟩
      exact Heap.get?_push_size _ rfl

theorem retext (x : Str) (t : Tok) : reTextOf (.str x t) = pure (x.cps, 0) := rfl
/-- the text of a group -/
theorem group_call {a : Addr} {text : Str} {groups : Nat} {x : Mine.Hit} {t : Tok} {b e : Nat} {Q : Value → Shared → Prop} (P : MatchAt s.heap a text groups x) (hs : spansOf groups x = [rawInt x.start, rawInt x.handed, rawInt b, rawInt e])
    (hz : (text.cps.extract b e).size ≤ sizeLine) (h : Q (.str ⟨text.cps.extract b e⟩ s.toks) { s with toks := s.toks + 1 }) :
    wpAny (model prog w) A (call (.builtin "re.Match.group") [.ref a, .int 1 t]) Q E s := by
  obtain ⟨tt, pat, f2, f3, f4, c, o, n, oc, e1, e2, e3, e4, e5, e6⟩ := P.obj
  refine wpAny_call_entry slot_group ⟨o, e1, e2⟩ entry_group ?_
  unfold Builtin.«re.Match.group»
  rw [show noKeywords "Match.group" ⟨[.ref a, .int 1 t], []⟩ = pure () from rfl]
  refine wpAny_bind (wpAny_pure ?_)
  dsimp only
  unfold reFound
  refine wpAny_bind (wpAny_bind (wpAny_fieldsOf e1 e4 (wpAny_bind ?_)))
  unfold reRawItems
  refine wpAny_bind (wpAny_seqItems e5 e6 ?_)
  refine wpAny_pure (wpAny_pure ?_)
  rw [hs]
  have en : ∀ f : Array Value, reGroupNumber { fields := f, spans := #[(x.start : Int), (x.handed : Int), (b : Int), (e : Int)] } (.int 1 t) = pure 1 := fun f => rfl
  have eg : Array.map reRawOf ((some ([rawInt x.start, rawInt x.handed, rawInt b, rawInt e].toArray)).getD #[]) = #[(x.start : Int), (x.handed : Int), (b : Int), (e : Int)] := by simp [reRawOf, rawInt]
  rw [eg, en]
  refine wpAny_bind (wpAny_pure (wpAny_bind ?_))
  unfold reGroupText
  show wpAny _ _ (if ((decide ((b : Int) < 0) || decide ((e : Int) < 0)) = true) then _ else _) _ _ _
  rw [if_neg (by simp)]
  show wpAny _ _ (reTextOf (.str text tt) >>= _) _ _ _
  rw [retext]
  refine wpAny_bind (wpAny_pure ?_)
  show wpAny _ _ (mkStr ⟨text.cps.extract (b : Int).toNat (e : Int).toNat⟩) _ _ _
  rw [Int.toNat_natCast, Int.toNat_natCast]
  exact wpAny_mkStr (wpAny_pure ⟨_, rfl, h⟩) hz

/-- the pair of a match's places -/
theorem span_call {a : Addr} {text : Str} {groups : Nat} {x : Mine.Hit} {t : Tok} {b e : Nat} {Q : Value → Shared → Prop} (P : MatchAt s.heap a text groups x) (hs : spansOf groups x = [rawInt x.start, rawInt x.handed, rawInt b, rawInt e])
    (h : Q (.ref s.heap.objs.size) { s with heap := s.heap.push { cls := .type "tuple", data := .seq [Value.int x.start s.toks, Value.int x.handed (s.toks + 1)].toArray }, toks := s.toks + 1 + 1 }) :
    wpAny (model prog w) A (call (.builtin "re.Match.span") [.ref a, .int 0 t]) Q E s := by
  obtain ⟨tt, pat, f2, f3, f4, c, o, n, oc, e1, e2, e3, e4, e5, e6⟩ := P.obj
  refine wpAny_call_entry slot_span ⟨o, e1, e2⟩ entry_span ?_
  unfold Builtin.«re.Match.span» reOneGroup
  rw [show selfAndSome "Match.span" "span" 0 1 ⟨[.ref a, .int 0 t], []⟩ = pure (.ref a, [.int 0 t]) from rfl]
  refine wpAny_bind (wpAny_bind (wpAny_pure ?_))
  dsimp only
  unfold reFound
  refine wpAny_bind (wpAny_bind (wpAny_fieldsOf e1 e4 (wpAny_bind ?_)))
  unfold reRawItems
  refine wpAny_bind (wpAny_seqItems e5 e6 ?_)
  refine wpAny_pure (wpAny_pure ?_)
  rw [hs]
  have en : ∀ f : Array Value, reGroupNumber { fields := f, spans := #[(x.start : Int), (x.handed : Int), (b : Int), (e : Int)] } (.int 0 t) = pure 0 := fun f => rfl
  have eg : Array.map reRawOf ((some ([rawInt x.start, rawInt x.handed, rawInt b, rawInt e].toArray)).getD #[]) = #[(x.start : Int), (x.handed : Int), (b : Int), (e : Int)] := by simp [reRawOf, rawInt]
  rw [eg, en]
  refine wpAny_bind (wpAny_pure (wpAny_pure ?_))
  dsimp only
  show wpAny _ _ (mkInt (x.start : Int) >>= fun _ => _) _ _ _
  refine wpAny_bind (wpAny_mkInt ?_)
  show wpAny _ _ (mkInt (x.handed : Int) >>= fun _ => _) _ _ _
  refine wpAny_bind (wpAny_mkInt ?_)
  exact wpAny_bind (wpAny_newTuple (wpAny_pure ⟨_, rfl, h⟩) (by rw [sizeLine_eq]; show 2 ≤ _; decide))
end
end Mine

set_option maxHeartbeats 400000
set_option Elab.async false
set_option maxRecDepth 100000
namespace Mine
open PySem PySem.Calls PyProof.Rows PySem.W PySem.Builtin.Re

theorem ms_type : typeOf (.builtin "re.Match.string") = pure (.type "member_descriptor") := by kernel_rfl
theorem ms_lk : typeLookup (.type "re.Match") "string" = pure (some (.builtin "re.Match.string")) := by rw [typeLookup_type, builtinLookup_eq_fast]; kernel_rfl
theorem ms_entry : entryFor table "re.Match.string" = some Builtin.«re.Match.string» := entryFor_of_tree (by kernel_rfl)
theorem ms_ga : Slot "re.Match" "__getattribute__" "object.__getattribute__" := .of (owner := "object") (n := "__getattribute__") (by rw [typeLookup_type, builtinLookup_eq_fast]; kernel_rfl) (by decide +kernel) (by decide +kernel) (by decide +kernel)
    (by first | exact .inl (by decide +kernel) | exact .inr (by decide +kernel)) (by rw [isSubtype_type]; kernel_rfl)
theorem ms_owner : (".".intercalate ("re.Match.string".cutAt '.').dropLast) = "re.Match" := by
  have e0 : "re.Match.string".cutAt '.' = ["re", "Match", "string"] := by first | rfl | decide +kernel
  rw [e0]; decide +kernel
theorem ms_args_ga (a b : Value) : argsOk "object.__getattribute__" ⟨[a, b], []⟩ := by unfold argsOk; kernel_rfl
theorem ms_sub : isSubtype (.type "re.Match") (.type "re.Match") = pure true := by rw [isSubtype_type]; kernel_rfl
theorem ms_entry_ga : entryFor table "object.__getattribute__" = some Builtin.«object.__getattribute__» := entryFor_of_tree (by kernel_rfl)
theorem ms_set : typeLookup (.type "member_descriptor") "__set__" = pure (some (.builtin "member_descriptor.__set__")) := by rw [typeLookup_type, builtinLookup_eq_fast]; kernel_rfl

section
variable {prog : Program} {w : World} {A : Around} {E : Value → Shared → Prop} {h : Heap} {g : Array GenState} {d : Drawn} {t : Nat} {os : OsState} {a : Addr} {o : Obj} {vs : Array Value} {a0 : Value}

theorem ms_get {R : Result → Shared → Prop} (hx : h.get? a = some o) (hc : o.cls = .type "re.Match") (hd : o.data = .fields vs) (h0 : vs[0]? = some a0) (hnd : (a0 == doubtfulMember) = false) (hq : R (.ok (.ret a0)) ⟨h, g, d, t, os⟩) :
    codeAny (model prog w) A (.call (.builtin "member_descriptor.__get__") ⟨[.builtin "re.Match.string", .ref a, .type "re.Match"], []⟩) R ⟨h, g, d, t, os⟩ := by
  have hT : (⟨h, g, d, t, os⟩ : Shared).TypeIs (.ref a) "re.Match" := ⟨_, hx, hc⟩
  have hT5 : (⟨h, g, d, t, os⟩ : Shared).TypeIs (.builtin "re.Match.string") "member_descriptor" := ms_type
  have f8 : isSubtype (.type "re.Match") (.type (".".intercalate ("re.Match.string".cutAt '.').dropLast)) = pure true := by rw [ms_owner]; exact ms_sub
  refine codeAny_call_builtin KF.slot_mem.plain KF.entry_mem (KF.slot_mem.check _ _ _ _ _ _ _ _ hT5 (KF.args_mem _ _ _) ?_)
  repeat (any_goals (first | assumption | wp_step))

  refine ⟨Code.quiet_builtin _ (by decide +kernel), codeAny_builtin ms_entry ?_⟩
  unfold Builtin.«re.Match.string»
  show wpAny _ _ (field (.ref a) 0 >>= fun v => ret v) _ _ _
  exact wpAny_bind (wpAny_field hx hd h0 (wpAny_pure hq))
theorem ms_ga_entry {tk : Tok} {Q : Fin → Shared → Prop} (hx : h.get? a = some o) (hc : o.cls = .type "re.Match") (hd : o.data = .fields vs) (h0 : vs[0]? = some a0) (hnd : (a0 == doubtfulMember) = false) (hq : Q (.done (.ret a0)) ⟨h, g, d, t, os⟩) :
    wpAny (model prog w) A (Builtin.«object.__getattribute__» ⟨[.ref a, .str "string" tk], []⟩) Q E ⟨h, g, d, t, os⟩ := by
  have hT : (⟨h, g, d, t, os⟩ : Shared).TypeIs (.ref a) "re.Match" := ⟨_, hx, hc⟩
  have hT5 : (⟨h, g, d, t, os⟩ : Shared).TypeIs (.builtin "re.Match.string") "member_descriptor" := ms_type
  have f4 := ms_lk
  have f5 := ms_type
  have f6 := KF.slot_mem.lookup
  have f7 := ms_set
  repeat (any_goals (first | assumption | wp_step))
  refine ms_get hx hc hd h0 hnd ?_
  repeat (any_goals (first | assumption | wp_step))

theorem ms_call {tk : Tok} {R : Result → Shared → Prop} (hx : h.get? a = some o) (hc : o.cls = .type "re.Match") (hd : o.data = .fields vs) (h0 : vs[0]? = some a0) (hnd : (a0 == doubtfulMember) = false) (hq : R (.ok (.ret a0)) ⟨h, g, d, t, os⟩) :
    codeAny (model prog w) A (.call (.builtin "object.__getattribute__") ⟨[.ref a, .str "string" tk], []⟩) R ⟨h, g, d, t, os⟩ :=
  codeAny_call_builtin ms_ga.plain ms_entry_ga (ms_ga.check _ _ _ _ _ _ _ _ (show (⟨h, g, d, t, os⟩ : Shared).TypeIs (.ref a) "re.Match" from ⟨_, hx, hc⟩) (ms_args_ga _ _) (ms_ga_entry hx hc hd h0 hnd hq))

theorem ms_by {tk tt : Tok} {x : Str} {fill expr : Bool} {Q : Value → Shared → Prop} (hx : h.get? a = some o) (hc : o.cls = .type "re.Match") (hd : o.data = .fields vs) (h0 : vs[0]? = some (.str x tt))
    (hq : Q (.str x tt) ⟨h, g, d, t, os⟩) : wpAny (model prog w) A (getAttrBy (.ref a) (.str "string" tk) fill expr) Q E ⟨h, g, d, t, os⟩ := by
  have hT : (⟨h, g, d, t, os⟩ : Shared).TypeIs (.ref a) "re.Match" := ⟨_, hx, hc⟩
  have f2 := ms_ga.lookup
  have f3 := ms_ga.bind (.ref a)
  have hx0 : (expr && onTheHeap (Value.builtin "object.__getattribute__")) = false := by cases expr <;> rfl
  repeat (any_goals (first | assumption | wp_step))
  refine ms_call hx hc hd h0 (by first | rfl | decide | simp [doubtfulMember, rawInt]) ?_
  repeat (any_goals (first | assumption | wp_step))

theorem ms_attr {expr : Bool} {x : Str} {tt : Tok} {Q : Value → Shared → Prop} (hx : h.get? a = some o) (hc : o.cls = .type "re.Match") (hd : o.data = .fields vs) (h0 : vs[0]? = some (.str x tt))
    (hq : Q (.str x tt) ⟨h, g, d, t + 1, os⟩) : wpAny (model prog w) A (getAttr (.ref a) "string" expr) Q E ⟨h, g, d, t, os⟩ := by
  unfold getAttr
  repeat (any_goals (first | assumption | with_reducible apply ms_by hx hc hd h0 | wp_step))
end
section
variable {prog : Program} {w : World} {A : Around} {E : Value → Shared → Prop} {s : Shared}
theorem string_attr {a : Addr} {text : Str} {groups : Nat} {x : Mine.Hit} {expr : Bool} {Q : Value → Shared → Prop} (P : MatchAt s.heap a text groups x)
    (h : ∀ t, Q (.str text t) { s with toks := s.toks + 1 }) : wpAny (model prog w) A (getAttr (.ref a) "string" expr) Q E s := by
  obtain ⟨tt, pat, f2, f3, f4, c, o, n, oc, e1, e2, e3, e4, e5, e6⟩ := P.obj
  obtain ⟨hp, g, d, tk, os⟩ := s
  exact ms_attr e1 e2 e4 rfl (h tt)
end
end Mine

set_option maxHeartbeats 400000
set_option Elab.async false
set_option maxRecDepth 100000
namespace Mine
open PySem PySem.Calls PyProof.Rows PySem.W PySem.Spec
/-- the ends of a call are hidden while its body is walked: the terms stay small (no exception leaves the body) -/
theorem hide_Q {α : Type} {M : Model} {A : Around} {t : Sem α} {Q : α → Shared → Prop} {E : Value → Shared → Prop} {s : Shared} (h : ∀ Q', Q' = Q → wpAny M A t Q' (fun _ _ => False) s) : wpAny M A t Q E s := wpAny_mono (h Q rfl) (fun _ _ x => x) (fun _ _ x => x.elim)
section
variable {prog : Program} {w : World} {A : Around} {s : Shared} {K : Frag} {R : Result → Shared → Prop} {name qual : Str} {params : Arguments} {body : List Stmt} {scope : Scope} {cl : List (Str × Addr)} {dV kV doc pm cdv ct : Value} {an : Option Addr}
  {f : Addr} {args : Args} {binds : List (Str × Value)} {fo : Obj}
/-- a def of the text is entered: its frame above the heap as it stands, less what may turn -/
theorem enter_def (hid : List (Addr × Obj)) (hh : ∀ p ∈ hid, s.heap.get? p.1 = some p.2) (hlim : s.heap.NoLimit)
    (ho : s.heap.get? f = some fo) (hd : fo.data = .func (fnX name qual params body scope cl dV kV doc pm an cdv ct)) (hcd : s.heap.CodeRec cdv qual) (hroom : A.depth < recursionLimit)
    (hbind : BindsTo s (fnX name qual params body scope cl dV kV doc pm an cdv ct) args binds) (hloc : ∀ y ∈ binds, scope.names.lookup y.1 = some .local)
    (h : ∀ L' h₁, Fr (hideAll s.heap (hid.map (·.1))) L' h₁ (fun y => binds.reverse.lookup y) → News (hideAll s.heap (hid.map (·.1))) L' h₁ hid → (∀ p ∈ hid, p.1 < L') →
      wpAny (model prog w) (A.deeper (envX qual scope L' f cdv cl)) (execs body (envX qual scope L' f cdv cl))
        (fun fl s' => R (.ok (.ret (match fl with | .ret v => v | _ => .none))) s')
        (fun e s' => wpAny (model prog w) (A.deeper (envX qual scope L' f cdv cl)) (leaving (envX qual scope L' f cdv cl) e) (fun _ s'' => R (.error e) s'') (fun e' s'' => R (.error e') s'') s')
        { s with heap := h₁, toks := s.toks + binds.length })
    (hco : scope.isCoroutine = false) (hgen : scope.isGenerator = false) (hk : scope.kind = .function)
    (hcell : ∀ x ∈ scope.names, x.2 ≠ .cell) : codeAny (model prog w) A (.call (.ref f) args) R s := by
  refine codeAny_call_def (fd := fnX name qual params body scope cl dV kV doc pm an cdv ct) (body := body) (binds := binds) hroom ho hd hlim hcd rfl hbind hcell hloc (fun h₁ hns hk₁ => ?_) hco hgen hk
  refine h s.heap.objs.size h₁ ⟨hns, fun b o e => hk₁ b o (of_hideAll _ e), Nat.le_of_eq (hideAll_size _ _)⟩ (fun p hp => ⟨hk₁ _ _ (hh p hp), Nat.ne_of_lt (Heap.lt_size (hh p hp)), hideAll_none _ (List.mem_map_of_mem hp)⟩) fun p hp => Heap.lt_size (hh p hp)
theorem enter_K {oc : Value} {od : Option Addr} {osl : Array (Option Value)} (hid : List (Addr × Obj)) (hh : ∀ p ∈ hid, s.heap.get? p.1 = some p.2) (X : K.In s.heap) (hlim : s.heap.NoLimit)
    (ho : K.lookup f = some ⟨oc, od, .func (fnX name qual params body scope cl dV kV doc pm an cdv ct), osl⟩) (hcd : codeIn K cdv qual = true) (hroom : A.depth < recursionLimit)
    (hbind : BindsTo s (fnX name qual params body scope cl dV kV doc pm an cdv ct) args binds) (hloc : ∀ y ∈ binds, scope.names.lookup y.1 = some .local)
    (h : ∀ L' h₁, Fr (hideAll s.heap (hid.map (·.1))) L' h₁ (fun y => binds.reverse.lookup y) → News (hideAll s.heap (hid.map (·.1))) L' h₁ hid → (∀ p ∈ hid, p.1 < L') →
      wpAny (model prog w) (A.deeper (envX qual scope L' f cdv cl)) (execs body (envX qual scope L' f cdv cl))
        (fun fl s' => R (.ok (.ret (match fl with | .ret v => v | _ => .none))) s')
        (fun e s' => wpAny (model prog w) (A.deeper (envX qual scope L' f cdv cl)) (leaving (envX qual scope L' f cdv cl) e) (fun _ s'' => R (.error e) s'') (fun e' s'' => R (.error e') s'') s')
        { s with heap := h₁, toks := s.toks + binds.length })
    (hco : scope.isCoroutine = false) (hgen : scope.isGenerator = false) (hk : scope.kind = .function)
    (hcell : ∀ x ∈ scope.names, x.2 ≠ .cell) : codeAny (model prog w) A (.call (.ref f) args) R s :=
  enter_def hid hh hlim (X _ _ ho) rfl (codeRec_of X hcd) hroom hbind hloc h hco hgen hk hcell
end
end Mine

set_option maxHeartbeats 400000
set_option Elab.async false
set_option maxRecDepth 100000
namespace Mine
open PySem PySem.Calls PyProof.Rows PySem.W PySem.Builtin.Re
/-- an around without a handled exception -/
abbrev Ar (dp : Nat) (fr : Option (List Env)) (gd : Option (List Code)) (un : Nat) : Around := { handled := none, depth := dp, frames := fr, guards := gd, units := un }
theorem ty_fullmatch : typeOf (.builtin "re.Pattern.fullmatch") = pure (.type "method_descriptor") := by kernel_rfl
theorem ty_sub : typeOf (.builtin "re.Pattern.sub") = pure (.type "method_descriptor") := by kernel_rfl
theorem ty_subn : typeOf (.builtin "re.Pattern.subn") = pure (.type "method_descriptor") := by kernel_rfl
theorem ty_span : typeOf (.builtin "re.Match.span") = pure (.type "method_descriptor") := by kernel_rfl
theorem ty_group : typeOf (.builtin "re.Match.group") = pure (.type "method_descriptor") := by kernel_rfl
section
variable {prog : Program} {w : World} {A : Around} {E : Value → Shared → Prop} {s : Shared} {h₀ : Heap} {L : Addr} {m : Str → Option Value} {news : List (Addr × Obj)}
theorem Fr_grows {h h' : Heap} (F : Fr h₀ L h m) (k : Grows h h') : Fr h₀ L h' m := ⟨F.ns.keeps k, fun b o e => k b o (F.keep b o e), F.above⟩
theorem News_grows {h h' : Heap} (N : News h₀ L h news) (k : Grows h h') : News h₀ L h' news := fun p hp => ⟨k _ _ (N p hp).1, (N p hp).2⟩
theorem methM {name : Str} {id : String} {pl : Sem Bool} {a : Addr} {text : Str} {groups : Nat} {x : Hit} {Q : Value × List Value → Shared → Prop} (slot : Slot "re.Match" name id) (ty : typeOf (.builtin id) = pure (.type "method_descriptor")) (P : MatchAt s.heap a text groups x)
    (h : Q (.builtin id, [.ref a]) s) : wpAny (model prog w) A (getMethod (.ref a) name pl) Q E s := by
  obtain ⟨tt, pat, f2, f3, f4, c, o, n, oc, e1, e2, e3, e4, e5, e6⟩ := P.obj
  refine getMethod_builtin (show s.TypeIs (.ref a) "re.Match" from ⟨o, e1, e2⟩) pa_match slot ty ?_ h
  intro b hb; cases hb; exact ⟨o, e1, e3⟩
theorem methP' {name : Str} {id : String} {pl : Sem Bool} {a : Addr} {code : Array Nat} {groups : Nat} {Q : Value × List Value → Shared → Prop} (slot : Slot "re.Pattern" name id) (ty : typeOf (.builtin id) = pure (.type "method_descriptor")) (P : PatAt s.heap a code groups)
    (h : Q (.builtin id, [.ref a]) s) : wpAny (model prog w) A (getMethod (.ref a) name pl) Q E s := by
  obtain ⟨o, e1, e2, e3⟩ := P.type
  refine getMethod_builtin (show s.TypeIs (.ref a) "re.Pattern" from ⟨o, e1, e2⟩) pa_pattern slot ty ?_ h
  intro b hb; cases hb; exact ⟨o, e1, e3⟩
theorem span_K {a : Addr} {text : Str} {groups : Nat} {x : Hit} {t : Tok} {b e : Nat} {Q : Value → Shared → Prop} (F : Fr h₀ L s.heap m) (N : News h₀ L s.heap news) (P : MatchAt s.heap a text groups x) (hs : spansOf groups x = [rawInt x.start, rawInt x.handed, rawInt b, rawInt e])
    (h : ∀ c h' tk t1 t2, Fr h₀ L h' m → News h₀ L h' ((c, { cls := .type "tuple", data := .seq [Value.int x.start t1, Value.int x.handed t2].toArray }) :: news) → (∀ p ∈ news, p.1 < c) → Q (.ref c) { s with heap := h', toks := tk }) :
    wpAny (model prog w) A (call (.builtin "re.Match.span") [.ref a, .int 0 t]) Q E s :=
  span_call P hs (h _ _ _ _ _ (F.push _) (N.push F _) fun p hp => Heap.lt_size (N p hp).1)
end
end Mine

set_option Elab.async false
set_option maxRecDepth 100000
set_option maxHeartbeats 8000000
set_option pp.maxSteps 4000
set_option pp.deepTerms false

namespace Mine
open PySem PySem.Calls PyProof.Rows PySem.W PySem.Builtin.Re
theorem fill : ∀ (w : World) (h : Heap), (hd.heap_39 w.params).In h → PySem.Challenge.rw_ik0003_01 = PySem.Challenge.rw_ik0003_01 := by
  w_top off
  k_fill
  intros; rfl

theorem wordsU21 : True := by
  k_with_none
  k_with "getMethod ref" => ((with_reducible show wpAny _ _ (getMethod (Value.ref _) (Str.ofString "span") _) _ _ _); (rename Fr _ _ _ _ => F'ₖ); (rename MatchAt _ _ _ _ _ => P'ₖ); k_dflt (refine methM slot_span ty_span (P'ₖ.keeps F'ₖ.keep) ?_))
  k_with "call builtin:re.Match.span" => ((rename Fr _ _ _ _ => F'ₖ); (rename News _ _ _ _ => N'ₖ); (rename MatchAt _ _ _ _ _ => P'ₖ); k_dflt (refine span_K F'ₖ N'ₖ (P'ₖ.keeps F'ₖ.keep) (by assumption) ?_); clear F'ₖ N'ₖ; intro c'ₖ h'ₖ tk'ₖ t1'ₖ t2'ₖ F'ₖ N'ₖ l1ₖ; (try dsimp only); (try k_lt l1ₖ))
  k_with "getAttr ref" => ((with_reducible show wpAny _ _ (getAttr (Value.ref _) (Str.ofString "string") _) _ _ _); (rename Fr _ _ _ _ => F'ₖ); (rename MatchAt _ _ _ _ _ => P'ₖ); k_dflt (refine string_attr (P'ₖ.keeps F'ₖ.keep) ?_); intro t'ₖ; (try dsimp only))
  trivial

theorem cut_text (text : Str) (n : Nat) (h : n ≤ text.cps.toList.length) : Txt.slice text none (some ((0 : Nat) : Int)) ++ Txt.slice text (some (n : Int)) none = ⟨(text.cps.toList.drop n).toArray⟩ := by
  have e1 : Txt.slice text none (some ((0 : Nat) : Int)) = ⟨((text.cps.toList.drop 0).take ((0 : Nat) - 0 : Int).toNat).toArray⟩ := StrLaws.sliceText_to (x := text) (j := ((0 : Nat) : Int)) ⟨by omega, by omega⟩
  have e2 : Txt.slice text (some (n : Int)) none = ⟨((text.cps.toList.drop (n : Int).toNat).take ((text.cps.toList.length : Int) - (n : Int)).toNat).toArray⟩ := StrLaws.sliceText_from (x := text) (i := (n : Int)) ⟨by omega, by omega⟩
  rw [e1, e2]
  apply Str.ext'
  rw [Str.cps_append]
  show ([].toArray : Array Nat) ++ _ = _
  have e3 : ((text.cps.toList.length : Int) - (n : Int)).toNat = (text.cps.toList.drop n).length := by rw [List.length_drop]; omega
  rw [e3, Int.toNat_natCast, List.take_length]
  simp

section
variable {w : World} {p : Program} {loose : List Str} {mean : ExcName → Option Value} {mg mb : Str → Option Value} {dp un : Nat} {fr : Option (List Env)} {gd : Option (List Code)} {s : Shared} {Q E : Value → Shared → Prop}

theorem unmatched_c {mt : Addr} {text : Str} {x : Hit} {b e : Nat} (X : (hd.heap_39 w.params).In s.heap) (T : Top p loose mean mg mb s.heap) (hd : dp + 1 < recursionLimit) (hu : un + 40 < cLine)
    (P : MatchAt s.heap mt text 1 x) (hs : spansOf 1 x = [rawInt x.start, rawInt x.handed, rawInt b, rawInt e]) (h0 : x.start = 0) (h1 : x.handed ≤ text.cps.toList.length) (hz : text.length ≤ 1048576)
    (h : ∀ h' tk' t, Grows s.heap h' → Q (.str ⟨(text.cps.toList.drop x.handed).toArray⟩ t) { s with heap := h', toks := tk' }) :
    wpAny (model PySem.Challenge.rw_ik0003_01.row.prog w) (Ar dp fr gd un) (call (.ref 43) [.ref mt]) Q E s := by
  refine wpAny_call ?_
  refine' enter_K (binds := [(Str.ofString "match", .ref mt)]) [] ?k0 X T.nolimit ?k6 ?k7 ?k8 ?k9 ?kB ?_ ?c2 ?c3 ?c4 ?c5
  case k6 => k_is
  case k7 => k_is
  case k0 => exact List.forall_mem_nil _
  case k8 => (show dp < recursionLimit; omega)
  case k9 => exact BindsTo.of_eq rfl
  case kB => exact locs rfl
  case c2 => exact rfl
  case c3 => exact rfl
  case c4 => exact rfl
  case c5 => decide
  intro L' h₁ F N _
  replace F : Fr s.heap L' h₁ (fun y => List.lookup y [(Str.ofString "match", .ref mt)]) := F
  replace N : News s.heap L' h₁ [] := N
  (try dsimp only)
  k_steps
  rw [h0, cut_text text x.handed h1]
  rename Fr _ _ _ _ => F'
  exact h _ _ _ F'.keep
end
end Mine

set_option maxHeartbeats 400000
set_option Elab.async false
set_option maxRecDepth 100000
namespace Mine
open PySem PySem.Calls PyProof.Rows PySem.W PySem.Builtin.Re
section
variable {prog : Program} {w : World} {A : Around} {E : Value → Shared → Prop} {s : Shared}

/-- a list of the call's own beside what stood before -/
structure Own (g : Heap) (h : Heap) (l : Addr) (vs : List Value) : Prop where
  grows : Grows g h
  fresh : g.get? l = none
  list : ∃ o k, h.get? l = some o ∧ o.cls = .type "list" ∧ o.data = .seq vs.toArray k
theorem Own.more {g h h' : Heap} {l : Addr} {vs : List Value} (O : Own g h l vs) (k : Grows h h') : Own g h' l vs :=
  let ⟨o, n, e, r⟩ := O.list; ⟨O.grows.trans k, O.fresh, o, n, k _ _ e, r⟩
theorem own_push {g : Heap} {l : Addr} {vs : List Value} {v : Value} {Q : Unit → Shared → Prop} (O : Own g s.heap l vs) (hz : vs.length < 1000) (h : ∀ h', Own g h' l (vs ++ [v]) → (∀ b o, b ≠ l → s.heap.get? b = some o → h'.get? b = some o) → Q () { s with heap := h' }) :
    wpAny (model prog w) A (updateSeq l (·.push v)) Q E s := by
  obtain ⟨⟨c, d, dt, sl⟩, k, e1, e2, e3⟩ := O.list
  dsimp only at e2 e3
  subst e2 e3
  have hs : Heap.SameBut l s.heap (s.heap.update l (Obj.mapSeq (·.push v))) := Heap.SameBut.update ..
  refine wpAny_updateSeq e1 rfl (h _ ⟨fun b o' e => ?_, O.fresh, ?_⟩ fun b o' hb e => (hs.2 b hb).trans e) (by rw [sizeLine_eq, List.size_toArray]; omega) (by rw [sizeLine_eq]; simp; omega)
  · have hb : b ≠ l := fun q => by rw [q, O.fresh] at e; cases e
    exact (hs.2 b hb).trans (O.grows b o' e)
  · refine ⟨_, if ((vs.toArray.push v).size == vs.toArray.size) = true then k else k + 1, Heap.get?_update_self _ e1 rfl, rfl, ?_⟩
    rw [← List.push_toArray]
    rfl

/-- what the loop of a substitution is handed -/
abbrev subArgs (p : Addr) (x : Str) (t : Tok) (repl : Value) (way n done start : Int) (l : Addr) (wc : Bool) : Args :=
  ⟨[.ref p, .str x t, repl, rawInt way, rawInt 0, rawInt n, rawInt done, rawInt start, .bool false, .ref l, .bool wc], []⟩

theorem whole_is {p : Addr} {code : Array Nat} {groups : Nat} {x : Str} {t : Tok} {Q : ReTarget → Shared → Prop} (P : PatAt s.heap p code groups)
    (h : Q { pattern := .ref p, string := .str x t, code, text := x.cps, kind := 0, groups, pos := 0, lim := x.cps.size } s) : wpAny (model prog w) A (reWholeTarget (.ref p) (.str x t)) Q E s := by
  obtain ⟨f0, f1, c, o, vs, n, oc, ho, hc, hd, hdat, hoc, hcd, hcode⟩ := P.obj
  unfold reWholeTarget
  refine wpAny_bind (wpAny_fieldsOf ho hdat ?_)
  rw [retext]
  refine wpAny_bind (wpAny_pure ?_)
  dsimp only
  rw [if_neg (by show ¬ ((reRawNat (Value.int 0 0) == 0 && (0 : Nat) == 1) = true); decide), if_neg (by show ¬ ((reRawNat (Value.int 0 0) == 1 && (0 : Nat) == 0) = true); decide)]
  rw [show reNoCollectionInside (.str x t) 0 = pure PUnit.unit from rfl]
  refine wpAny_bind (wpAny_pure ?_)
  refine wpAny_bind ?_
  unfold reRawItems
  refine wpAny_bind (wpAny_seqItems hoc hcd ?_)
  refine wpAny_pure (wpAny_pure ?_)
  have e2 : (Array.map (fun x => x.toNat) (Array.map reRawOf ((some vs).getD #[]))) = code := hcode
  have e5 : reRawNat (#[f0, f1, Value.int (groups : Int) 0, Value.none, Value.none, Value.ref c, Value.int 0 0].getD 2 Value.none) = groups := by show ((groups : Int)).toNat = groups; simp
  rw [e2, e5]
  exact h

theorem plain_subloop : plainId "re.Pattern.sub.loop" = true := by decide +kernel
/-- one match more, a def called for it -/
theorem sub_call {g : Heap} {p l : Addr} {code : Array Nat} {groups N done : Nat} {n : Int} {x z : Str} {t zt : Tok} {f : Addr} {vs : List Value} {y : Hit} {wc : Bool} {R : Result → Shared → Prop} (O : Own g s.heap l vs) (P : PatAt g p code groups) (hg : groups ≤ 1) (hx : x.cps.size < 2 ^ 62) (hv : vs.length < 900)
    (hN : N + 1 ≤ 4 * 2 ^ 64) (he : Ends (Sre.forSearch code x.cps groups done x.cps.size false) N (some y)) (hw : wrongSpan groups y = false) (hs : y.start = done) (hm : (y.handed == y.start) = false)
    (hcall : ∀ (a : Addr) (s₁ : Shared) (Q : Value → Shared → Prop), Grows g s₁.heap → MatchAt s₁.heap a x groups y → (∀ h' tk zt', Grows s₁.heap h' → Q (.str z zt') { s₁ with heap := h', toks := tk }) → wpAny (model prog w) (A.in1) (call (.ref f) [.ref a]) Q (fun e s' => R (.error e) s') s₁)
    (next : ∀ h' tk zt', Own g h' l (vs ++ [.str z zt']) → codeAny (model prog w) A (.builtin "re.Pattern.sub.loop" (subArgs p x t (.ref f) 1 (n + 1) y.handed y.handed l wc)) R { s with heap := h', toks := tk }) :
    codeAny (model prog w) A (.builtin "re.Pattern.sub.loop" (subArgs p x t (.ref f) 1 n done done l wc)) R s := by
  refine codeAny_builtin entry_subloop ?_
  rw [Around.under_plainId plain_subloop]
  unfold Builtin.«re.Pattern.sub.loop»
  dsimp only
  refine wpAny_bind (whole_is (P.keeps O.grows) ?_)
  dsimp only
  rw [if_neg (by decide)]
  rw [if_neg (by simp)]
  unfold reNextFound
  refine wpAny_bind (runToEnd_is (r := some y) hN ?_ ?_)
  · show Ends (Sre.forSearch code x.cps groups ((done : Int)).toNat x.cps.size false) N (some y)
    rw [Int.toNat_natCast]; exact he
  intro m' hm'
  have hst : m'.start = done := by rw [← hs, ← hm']; rfl
  have hha : m'.handed = y.handed := by rw [← hm']; rfl
  dsimp only
  rw [if_neg (by rw [hst, Int.toNat_natCast]; omega), if_neg (by decide)]
  refine wpAny_bind (newMatch_is hm' hg hw ?_)
  refine wpAny_bind (wpAny_holding ?_)
  rw [if_pos (by decide)]
  have G1 : Grows s.heap ((s.heap.push { cls := .type "tuple", data := .seq (spansOf groups y).toArray }).push { cls := .type "re.Match", data := .fields #[.str x t, .ref p, rawInt (0 : Nat), rawInt x.cps.size, rawInt y.lastindex, .ref s.heap.objs.size] }) := (Grows.push _ _).trans (Grows.push _ _)
  refine hcall _ _ _ (O.grows.trans G1) ⟨t, .ref p, rawInt (0 : Nat), rawInt x.cps.size, rawInt y.lastindex, s.heap.objs.size, { cls := .type "re.Match", data := .fields #[.str x t, .ref p, rawInt (0 : Nat), rawInt x.cps.size, rawInt y.lastindex, .ref s.heap.objs.size] }, 0, { cls := .type "tuple", data := .seq (spansOf groups y).toArray }, Heap.get?_push_size _ rfl, rfl, rfl, rfl, Heap.get?_push_of_some _ (Heap.get?_push_size _ rfl), rfl⟩ ?_
  intro h' tk zt' G2
  rw [if_pos (by rfl)]
  refine wpAny_bind (own_push ((O.more G1).more G2) (by omega) ?_)
  intro h'' O' _
  refine wpAny_pure ⟨plainId_quiet plain_subloop _, ?_⟩
  have e1 : (m'.handed == m'.start) = false := by rw [hha, hst, ← hs]; exact hm
  rw [e1, hha]
  exact next _ _ _ O'

/-- one match more, a written text for it -/
theorem sub_text {g : Heap} {p l : Addr} {code : Array Nat} {groups N done : Nat} {n : Int} {x z : Str} {t zt : Tok} {vs : List Value} {y : Hit} {wc : Bool} {R : Result → Shared → Prop} (O : Own g s.heap l vs) (P : PatAt g p code groups) (hv : vs.length < 900)
    (hN : N + 1 ≤ 4 * 2 ^ 64) (he : Ends (Sre.forSearch code x.cps groups done x.cps.size false) N (some y)) (hs : y.start = done) (hm : (y.handed == y.start) = false)
    (next : ∀ h', Own g h' l (vs ++ [.str z zt]) → codeAny (model prog w) A (.builtin "re.Pattern.sub.loop" (subArgs p x t (.str z zt) 0 (n + 1) y.handed y.handed l wc)) R { s with heap := h' }) :
    codeAny (model prog w) A (.builtin "re.Pattern.sub.loop" (subArgs p x t (.str z zt) 0 n done done l wc)) R s := by
  refine codeAny_builtin entry_subloop ?_
  rw [Around.under_plainId plain_subloop]
  unfold Builtin.«re.Pattern.sub.loop»
  dsimp only
  refine wpAny_bind (whole_is (P.keeps O.grows) ?_)
  dsimp only
  rw [if_pos (by decide)]
  rw [show reLiteralCannotBeTurned (.str z zt) = pure PUnit.unit from rfl]
  refine wpAny_bind (wpAny_pure ?_)
  rw [if_neg (by simp)]
  unfold reNextFound
  refine wpAny_bind (runToEnd_is (r := some y) hN ?_ ?_)
  · show Ends (Sre.forSearch code x.cps groups ((done : Int)).toNat x.cps.size false) N (some y)
    rw [Int.toNat_natCast]; exact he
  intro m' hm'
  have hst : m'.start = done := by rw [← hs, ← hm']; rfl
  have hha : m'.handed = y.handed := by rw [← hm']; rfl
  dsimp only
  rw [if_neg (by rw [hst, Int.toNat_natCast]; omega), if_pos (by decide)]
  refine wpAny_bind (wpAny_pure ?_)
  rw [if_pos (by rfl)]
  refine wpAny_bind (own_push O (by omega) ?_)
  intro h'' O' _
  refine wpAny_pure ⟨plainId_quiet plain_subloop _, ?_⟩
  have e1 : (m'.handed == m'.start) = false := by rw [hha, hst, ← hs]; exact hm
  rw [e1, hha]
  exact next _ O'

/-- the pieces at the end -/
def wholeOf (x : Str) (done : Nat) (lst : List Str) : List Str := lst ++ (if done < x.cps.size then [⟨x.cps.extract done x.cps.size⟩] else [])
/-- the text at the end -/
def gluedOf (x : Str) (done : Nat) (lst : List Str) : Str := if (wholeOf x done lst).isEmpty then ⟨#[]⟩ else Txt.join ⟨#[]⟩ (wholeOf x done lst)

theorem sub_glue {α : Type} {K : Value → Sem α} {g : Heap} {l : Addr} {full : List (Str × Tok)} {x : Str} {Q : α → Shared → Prop} (O : Own g s.heap l (strValues full)) (hj : JoinOk ⟨#[]⟩ (full.map (·.1)) = true)
    (h : ∀ h' tk t', Own g h' l (strValues full) → wpAny (model prog w) A (K (.str (if (full.map (·.1)).isEmpty then ⟨#[]⟩ else Txt.join ⟨#[]⟩ (full.map (·.1))) t')) Q E { s with heap := h', toks := tk }) :
    wpAny (model prog w) A (reSlice x.cps 0 0 0 >>= fun joiner => seqItems? (.ref l) >>= fun d => if (d.getD #[]).isEmpty = true then pure joiner >>= K else call (.builtin (if (0 : Nat) == 0 then "str.join" else "bytes.join")) [joiner, .ref l] >>= K) Q E s := by
  unfold reSlice
  rw [if_pos (by decide)]
  have ee : x.cps.extract 0 0 = #[] := by simp
  rw [ee]
  refine wpAny_bind (wpAny_mkStr ?_ (by show (#[] : Array Nat).size ≤ sizeLine; rw [sizeLine_eq]; decide))
  obtain ⟨o, k, e1, e2, e3⟩ := O.list
  refine wpAny_bind (wpAny_seqItems e1 e3 ?_)
  have O' : Own g s.heap l (strValues full) := O
  cases full with
  | nil =>
    rw [if_pos (by rfl)]
    exact wpAny_bind (wpAny_pure (h _ _ _ O'))
  | cons p r =>
    rw [if_neg (by show ¬ (((strValues (p :: r)).toArray).isEmpty = true); simp [strValues])]
    rw [if_pos (by rfl)]
    refine wpAny_bind (SC.join (l := p :: r) (texts := (p :: r).map (·.1)) ⟨o, e1, e2, k, e3⟩ rfl hj fun t' k' => ?_)
    have := h s.heap k' t' O'
    simpa using this

theorem sub_tail {α : Type} {K : Value → Sem α} {g : Heap} {l : Addr} {done : Nat} {lst : List (Str × Tok)} {x : Str} {Q : α → Shared → Prop} (O : Own g s.heap l (strValues lst)) (hv : lst.length < 900) (hz : x.cps.size ≤ 1048576) (hj : JoinOk ⟨#[]⟩ (wholeOf x done (lst.map (·.1))) = true)
    (h : ∀ h' tk t', Grows g h' → wpAny (model prog w) A (K (.str (gluedOf x done (lst.map (·.1))) t')) Q E { s with heap := h', toks := tk }) :
    wpAny (model prog w) A (if ((done : Int)).toNat < x.cps.size then (reSlice x.cps 0 ((done : Int)).toNat x.cps.size >>= fun z => updateSeq l (fun a => a.push z) >>= fun _ => reSlice x.cps 0 0 0 >>= fun joiner => seqItems? (.ref l) >>= fun d => if (d.getD #[]).isEmpty = true then pure joiner >>= K else call (.builtin (if (0 : Nat) == 0 then "str.join" else "bytes.join")) [joiner, .ref l] >>= K)
      else (reSlice x.cps 0 0 0 >>= fun joiner => seqItems? (.ref l) >>= fun d => if (d.getD #[]).isEmpty = true then pure joiner >>= K else call (.builtin (if (0 : Nat) == 0 then "str.join" else "bytes.join")) [joiner, .ref l] >>= K)) Q E s := by
  rw [Int.toNat_natCast]
  unfold wholeOf at hj
  unfold gluedOf wholeOf at h
  by_cases hd : done < x.cps.size
  · rw [if_pos hd] at hj ⊢
    rw [if_pos hd] at h
    conv => arg 3; unfold reSlice
    rw [if_pos (by decide)]
    refine wpAny_bind (wpAny_mkStr ?_ (by show (x.cps.extract done x.cps.size).size ≤ sizeLine; rw [sizeLine_eq, Array.size_extract]; omega))
    refine wpAny_bind (own_push O (by simp [strValues]; omega) ?_)
    intro h' O' _
    have e : strValues lst ++ [Value.str ⟨x.cps.extract done x.cps.size⟩ s.toks] = strValues (lst ++ [(⟨x.cps.extract done x.cps.size⟩, s.toks)]) := by simp [strValues]
    rw [e] at O'
    refine sub_glue (full := lst ++ [(⟨x.cps.extract done x.cps.size⟩, s.toks)]) O' (by simpa using hj) fun h'' tk t' O'' => ?_
    have := h h'' tk t' O''.grows
    simpa using this
  · rw [if_neg hd] at hj ⊢
    rw [if_neg hd] at h
    refine sub_glue (full := lst) O (by simpa using hj) fun h'' tk t' O'' => ?_
    have := h h'' tk t' O''.grows
    simpa using this

theorem sub_end {g : Heap} {p l : Addr} {code : Array Nat} {groups N done : Nat} {n : Int} {x : Str} {t : Tok} {repl : Value} {way : Int} {lst : List (Str × Tok)} {R : Result → Shared → Prop} (O : Own g s.heap l (strValues lst)) (P : PatAt g p code groups) (hv : lst.length < 900)
    (hway : way = 1 ∨ (way = 0 ∧ ∃ z zt, repl = .str z zt)) (hN : N + 1 ≤ 4 * 2 ^ 64) (he : Ends (Sre.forSearch code x.cps groups done x.cps.size false) N none) (hz : x.cps.size ≤ 1048576) (hj : JoinOk ⟨#[]⟩ (wholeOf x done (lst.map (·.1))) = true)
    (h : ∀ h' tk t', Grows g h' → R (.ok (.ret (.str (gluedOf x done (lst.map (·.1))) t'))) { s with heap := h', toks := tk }) :
    codeAny (model prog w) A (.builtin "re.Pattern.sub.loop" (subArgs p x t repl way n done done l false)) R s := by
  refine codeAny_builtin entry_subloop ?_
  rw [Around.under_plainId plain_subloop]
  unfold Builtin.«re.Pattern.sub.loop»
  dsimp only
  refine wpAny_bind (whole_is (P.keeps O.grows) ?_)
  dsimp only
  have he' : Ends (Sre.forSearch code x.cps groups ((done : Int)).toNat x.cps.size false) N none := by rw [Int.toNat_natCast]; exact he
  rcases hway with rfl | ⟨rfl, z, zt, rfl⟩
  · rw [if_neg (by decide), if_neg (by simp)]
    unfold reNextFound
    refine wpAny_bind (runToEnd_is (r := none) hN he' ?_)
    exact sub_tail O hv hz hj fun h' tk t' G => wpAny_pure (h h' tk t' G)
  · rw [if_pos (by decide)]
    rw [show reLiteralCannotBeTurned (.str z zt) = pure PUnit.unit from rfl]
    refine wpAny_bind (wpAny_pure ?_)
    rw [if_neg (by simp)]
    unfold reNextFound
    refine wpAny_bind (runToEnd_is (r := none) hN he' ?_)
    exact sub_tail O hv hz hj fun h' tk t' G => wpAny_pure (h h' tk t' G)
theorem subn_end {g : Heap} {p l : Addr} {code : Array Nat} {groups N done : Nat} {n : Int} {x : Str} {t : Tok} {repl : Value} {way : Int} {lst : List (Str × Tok)} {R : Result → Shared → Prop} (O : Own g s.heap l (strValues lst)) (P : PatAt g p code groups) (hv : lst.length < 900)
    (hway : way = 1 ∨ (way = 0 ∧ ∃ z zt, repl = .str z zt)) (hN : N + 1 ≤ 4 * 2 ^ 64) (he : Ends (Sre.forSearch code x.cps groups done x.cps.size false) N none) (hz : x.cps.size ≤ 1048576) (hj : JoinOk ⟨#[]⟩ (wholeOf x done (lst.map (·.1))) = true)
    (h : ∀ c h' tk t' t'', Grows g h' → g.get? c = none → h'.get? c = some { cls := .type "tuple", data := .seq [Value.str (gluedOf x done (lst.map (·.1))) t', Value.int n t''].toArray } → R (.ok (.ret (.ref c))) { s with heap := h', toks := tk }) :
    codeAny (model prog w) A (.builtin "re.Pattern.sub.loop" (subArgs p x t repl way n done done l true)) R s := by
  refine codeAny_builtin entry_subloop ?_
  rw [Around.under_plainId plain_subloop]
  unfold Builtin.«re.Pattern.sub.loop»
  dsimp only
  refine wpAny_bind (whole_is (P.keeps O.grows) ?_)
  dsimp only
  have he' : Ends (Sre.forSearch code x.cps groups ((done : Int)).toNat x.cps.size false) N none := by rw [Int.toNat_natCast]; exact he
  have last : ∀ h' tk t', Grows g h' → wpAny (model prog w) A.in1 (holding [Value.str (gluedOf x done (lst.map (·.1))) t'] (do let i ← mkInt n; newTuple [Value.str (gluedOf x done (lst.map (·.1))) t', i]) >>= fun v => ret v)
      (fun fin s' => match fin with | .done f => R (.ok f) s' | .again c' => c'.quiet = true ∧ codeAny (model prog w) A c' R s') (fun e s' => R (.error e) s') { s with heap := h', toks := tk } := by
    intro h' tk t' G
    refine wpAny_bind (wpAny_holding (wpAny_bind (wpAny_mkInt (wpAny_newTuple (wpAny_pure ?_) (by rw [sizeLine_eq]; show 2 ≤ _; decide)))))
    refine h _ _ _ _ _ (G.trans (Grows.push _ _)) ?_ (Heap.get?_push_size _ rfl)
    cases q : g.get? h'.objs.size with
    | none => rfl
    | some o => exact absurd (Heap.lt_size (G _ _ q)) (Nat.lt_irrefl _)
  rcases hway with rfl | ⟨rfl, z, zt, rfl⟩
  · rw [if_neg (by decide), if_neg (by simp)]
    unfold reNextFound
    refine wpAny_bind (runToEnd_is (r := none) hN he' ?_)
    exact sub_tail O hv hz hj last
  · rw [if_pos (by decide)]
    rw [show reLiteralCannotBeTurned (.str z zt) = pure PUnit.unit from rfl]
    refine wpAny_bind (wpAny_pure ?_)
    rw [if_neg (by simp)]
    unfold reNextFound
    refine wpAny_bind (runToEnd_is (r := none) hN he' ?_)
    exact sub_tail O hv hz hj last
end
end Mine

set_option maxHeartbeats 400000
set_option Elab.async false
set_option maxRecDepth 100000
namespace Mine
open PySem PySem.Calls PyProof.Rows PySem.W PySem.Builtin.Re
theorem fn_callable : ∃ v, typeLookup (.type "function") "__call__" = pure (some v) := ⟨.builtin "function.__call__", by rw [typeLookup_type, builtinLookup_eq_fast]; kernel_rfl⟩
theorem str_not_callable : typeLookup (.type "str") "__call__" = pure none := by rw [typeLookup_type, builtinLookup_eq_fast]; kernel_rfl
theorem str_no_bytearray : isSubtype (.type "str") (.type "bytearray") = pure false := by rw [isSubtype_type]; kernel_rfl
section
variable {prog : Program} {w : World} {A : Around} {E : Value → Shared → Prop} {s : Shared}

theorem notHeld_str {id : String} {x : Str} {t : Tok} {Q : PUnit → Shared → Prop} (h : Q PUnit.unit s) : wpAny (model prog w) A (reNotHeld id (.str x t)) Q E s := by
  unfold reNotHeld
  refine wpAny_bind (wpAny_isInstance (typeIs_str s x t) str_no_bytearray ?_)
  rw [if_neg Bool.false_ne_true]
  exact wpAny_pure h
theorem own_new {Q : Value → Shared → Prop} (h : ∀ l h', Own s.heap h' l [] → Q (.ref l) { s with heap := h' }) : wpAny (model prog w) A (newList []) Q E s := by
  refine wpAny_newObj_type (h _ _ ⟨Grows.push _ _, Heap.get?_none_of_le (Nat.le_refl _), _, 0, Heap.get?_push_size _ rfl, rfl, rfl⟩) ?_
  show ([] : List Value).toArray.size ≤ sizeLine
  rw [sizeLine_eq]; decide
theorem sub_start {p f : Addr} {code : Array Nat} {groups : Nat} {x : Str} {t : Tok} {Q : Value → Shared → Prop} (P : PatAt s.heap p code groups) (hf : s.TypeIs (.ref f) "function")
    (h : ∀ l h', Own s.heap h' l [] → codeAny (model prog w) A (.builtin "re.Pattern.sub.loop" (subArgs p x t (.ref f) 1 0 ((0 : Nat) : Int) ((0 : Nat) : Int) l false)) (wants Q E) { s with heap := h' }) :
    wpAny (model prog w) A (call (.builtin "re.Pattern.sub") [.ref p, .ref f, .str x t]) Q E s := by
  obtain ⟨o, ho, hc, hd⟩ := P.type
  have hT : s.TypeIs (.ref p) "re.Pattern" := ⟨o, ho, hc⟩
  refine wpAny_call (codeAny_call_builtin slot_sub.plain entry_sub (slot_sub.check _ _ _ _ _ _ _ _ hT (by rfl) ?_))
  unfold Builtin.«re.Pattern.sub» reSubstitute
  dsimp only
  have e1 : reNamed "re.Pattern.sub" "sub" ["repl", "string", "count"] 2 [.ref f, .str x t] [] = pure [some (.ref f), some (.str x t), none] := by rfl
  rw [e1]
  refine wpAny_bind (wpAny_pure ?_)
  dsimp only
  refine wpAny_bind (wpAny_pure ?_)
  obtain ⟨v, hv⟩ := fn_callable
  refine wpAny_bind (wpAny_specialOf hf hv ?_)
  rw [if_pos (by rfl)]
  refine wpAny_bind (wpAny_pure ?_)
  rw [if_pos (by rfl)]
  refine wpAny_bind (wpAny_pure ?_)
  refine wpAny_bind (wpAny_holding (whole_is P ?_))
  rw [if_pos (by rfl)]
  refine wpAny_bind (notHeld_str ?_)
  refine wpAny_bind (own_new fun l h' O => ?_)
  exact wpAny_pure ⟨plainId_quiet plain_subloop _, h l h' O⟩

theorem subn_start {p : Addr} {code : Array Nat} {groups : Nat} {x z : Str} {t zt : Tok} {Q : Value → Shared → Prop} (P : PatAt s.heap p code groups) (hz : z.cps.contains 92 = false)
    (h : ∀ l h', Own s.heap h' l [] → codeAny (model prog w) A (.builtin "re.Pattern.sub.loop" (subArgs p x t (.str z zt) 0 0 ((0 : Nat) : Int) ((0 : Nat) : Int) l true)) (wants Q E) { s with heap := h' }) :
    wpAny (model prog w) A (call (.builtin "re.Pattern.subn") [.ref p, .str z zt, .str x t]) Q E s := by
  obtain ⟨o, ho, hc, hd⟩ := P.type
  have hT : s.TypeIs (.ref p) "re.Pattern" := ⟨o, ho, hc⟩
  refine wpAny_call (codeAny_call_builtin slot_subn.plain entry_subn (slot_subn.check _ _ _ _ _ _ _ _ hT (by rfl) ?_))
  unfold Builtin.«re.Pattern.subn» reSubstitute
  dsimp only
  have e1 : reNamed "re.Pattern.subn" "subn" ["repl", "string", "count"] 2 [.str z zt, .str x t] [] = pure [some (.str z zt), some (.str x t), none] := by rfl
  rw [e1]
  refine wpAny_bind (wpAny_pure ?_)
  dsimp only
  refine wpAny_bind (wpAny_pure ?_)
  refine wpAny_bind (wpAny_specialOf (typeIs_str s z zt) str_not_callable ?_)
  rw [if_neg (by simp)]
  rw [show asStr? (.str z zt) = pure (some z) from rfl]
  refine wpAny_bind (wpAny_pure ?_)
  dsimp only
  refine wpAny_bind (wpAny_pure ?_)
  rw [if_neg (by simp), hz, if_pos (by rfl)]
  refine wpAny_bind (wpAny_pure ?_)
  refine wpAny_bind (wpAny_holding (whole_is P ?_))
  rw [if_neg (by simp)]
  refine wpAny_bind (own_new fun l h' O => ?_)
  exact wpAny_pure ⟨plainId_quiet plain_subloop _, h l h' O⟩
end
end Mine

set_option Elab.async false
set_option maxRecDepth 100000
set_option maxHeartbeats 2000000
namespace Mine
open PySem PySem.Calls PyProof.Rows PySem.W PySem.Builtin.Re
/-- the value's own text -/
def valL : PV → List Nat
  | .xy => [120, 89]
  | .semi => [121, 59, 32, 122, 61, 44, 32]
  | .esc => [92, 34]
  | _ => []
def endsN (m : Sre.M) (n : Nat) : Bool := match (m.runFor n).outcome with | some .failed => true | _ => false
theorem ends_of_N {m : Sre.M} {n : Nat} (h : endsN m n = true) : Ends m n none := by
  unfold endsN at h
  show (m.runFor n).outcome = some .failed
  cases ho : (m.runFor n).outcome with
  | none => rw [ho] at h; cases h
  | some o => rw [ho] at h; cases o <;> first | rfl | cases h
theorem esc_none : ([PV.emp, PV.semi].all fun v => endsN (Sre.forSearch cEsc (rawL v).toArray 1 0 (rawL v).toArray.size false) 400) = true := by decide +kernel
theorem esc_1 : endsB (Sre.forSearch cEsc (rawL .esc).toArray 1 0 4 false) 400 ⟨0, 2, 1, 1, [some 1, some 2]⟩ = true := by decide +kernel
theorem esc_2 : endsB (Sre.forSearch cEsc (rawL .esc).toArray 1 2 4 false) 400 ⟨2, 4, 1, 1, [some 3, some 4]⟩ = true := by decide +kernel
theorem esc_3 : endsN (Sre.forSearch cEsc (rawL .esc).toArray 1 4 4 false) 400 = true := by decide +kernel
theorem je_none : ([PV.emp, PV.semi].all fun v => endsN (Sre.forSearch cJe (valL v).toArray 1 0 (valL v).toArray.size false) 400) = true := by decide +kernel
theorem je_1 : endsB (Sre.forSearch cJe (valL .esc).toArray 1 0 2 false) 400 ⟨0, 1, 1, 1, [some 0, some 1]⟩ = true := by decide +kernel
theorem je_2 : endsB (Sre.forSearch cJe (valL .esc).toArray 1 1 2 false) 400 ⟨1, 2, 1, 1, [some 1, some 2]⟩ = true := by decide +kernel
theorem je_3 : endsN (Sre.forSearch cJe (valL .esc).toArray 1 2 2 false) 400 = true := by decide +kernel
theorem jt_hit : endsB (Sre.forMatch cJt (valL .xy).toArray 0 0 2 true false) 400 ⟨0, 2, -1, -1, []⟩ = true := by decide +kernel
theorem jt_miss : ([PV.emp, PV.semi, PV.esc].all fun v => endsN (Sre.forMatch cJt (valL v).toArray 0 0 (valL v).toArray.size true false) 400) = true := by decide +kernel

section
variable {prog : Program} {w : World} {A : Around} {E : Value → Shared → Prop} {s : Shared}
/-- the def hands back a text ahead of a match's group -/
def LamOk (prog : Program) (w : World) (A : Around) (g : Heap) (f : Addr) (pre : Str) : Prop :=
  ∀ (a : Addr) (s₁ : Shared) (Q E : Value → Shared → Prop) (x : Str) (y : Hit) (b e : Nat), Grows g s₁.heap → MatchAt s₁.heap a x 1 y → spansOf 1 y = [rawInt y.start, rawInt y.handed, rawInt b, rawInt e] → x.length ≤ 1048576 → b < e → e ≤ x.cps.size →
    (∀ h' tk t', Grows s₁.heap h' → Q (.str (pre ++ ⟨x.cps.extract b e⟩) t') { s₁ with heap := h', toks := tk }) → wpAny (model prog w) A (call (.ref f) [.ref a]) Q E s₁

/-- two matches end to end, and no more -/
theorem sub_two {p f : Addr} {code : Array Nat} {N a1 a2 b1 e1 b2 e2 : Nat} {x pre : Str} {t : Tok} {y1 y2 : Hit} {Q : Value → Shared → Prop} (P : PatAt s.heap p code 1) (hf : s.TypeIs (.ref f) "function") (hl : LamOk prog w A.in1 s.heap f pre) (hx : x.length ≤ 1048576) (hN : N ≤ 1000000)
    (h1 : Ends (Sre.forSearch code x.cps 1 0 x.cps.size false) N (some y1)) (h2 : Ends (Sre.forSearch code x.cps 1 a1 x.cps.size false) N (some y2)) (h3 : Ends (Sre.forSearch code x.cps 1 a2 x.cps.size false) N none)
    (k1 : y1.start = 0 ∧ y1.handed = a1 ∧ (y1.handed == y1.start) = false ∧ wrongSpan 1 y1 = false ∧ spansOf 1 y1 = [rawInt y1.start, rawInt y1.handed, rawInt b1, rawInt e1] ∧ b1 < e1 ∧ e1 ≤ x.cps.size)
    (k2 : y2.start = a1 ∧ y2.handed = a2 ∧ (y2.handed == y2.start) = false ∧ wrongSpan 1 y2 = false ∧ spansOf 1 y2 = [rawInt y2.start, rawInt y2.handed, rawInt b2, rawInt e2] ∧ b2 < e2 ∧ e2 ≤ x.cps.size)
    (hj : JoinOk ⟨#[]⟩ (wholeOf x a2 [pre ++ ⟨x.cps.extract b1 e1⟩, pre ++ ⟨x.cps.extract b2 e2⟩]) = true)
    (h : ∀ h' tk t', Grows s.heap h' → Q (.str (gluedOf x a2 [pre ++ ⟨x.cps.extract b1 e1⟩, pre ++ ⟨x.cps.extract b2 e2⟩]) t') { s with heap := h', toks := tk }) :
    wpAny (model prog w) A (call (.builtin "re.Pattern.sub") [.ref p, .ref f, .str x t]) Q E s := by
  obtain ⟨k11, k12, k13, k14, k15, k16, k17⟩ := k1
  obtain ⟨k21, k22, k23, k24, k25, k26, k27⟩ := k2
  have hx2 : x.cps.size ≤ 1048576 := hx
  have q1 : N + 1 ≤ 4 * 2 ^ 64 := by omega
  refine sub_start P hf fun l h1' O1 => ?_
  refine sub_call (N := N) (n := 0) (done := 0) (zt := 0) (z := pre ++ ⟨x.cps.extract b1 e1⟩) O1 P (by omega) (by omega) (by simp) q1 h1 k14 k11 k13 ?_ ?_
  · intro a s₁ Q' G M hq
    exact hl a s₁ Q' _ x y1 b1 e1 G M k15 hx k16 k17 hq
  intro h2' tk2 z2 O2
  rw [k12]
  refine sub_call (N := N) (n := 0 + 1) (done := a1) (zt := 0) (z := pre ++ ⟨x.cps.extract b2 e2⟩) O2 P (by omega) (by omega) (by simp) q1 h2 k24 k21 k23 ?_ ?_
  · intro a s₁ Q' G M hq
    exact hl a s₁ Q' _ x y2 b2 e2 G M k25 hx k26 k27 hq
  intro h3' tk3 z3 O3
  rw [k22]
  have O3' : Own s.heap h3' l (strValues [(pre ++ ⟨x.cps.extract b1 e1⟩, z2), (pre ++ ⟨x.cps.extract b2 e2⟩, z3)]) := O3
  have hl9 : [(pre ++ (⟨x.cps.extract b1 e1⟩ : Str), z2), (pre ++ ⟨x.cps.extract b2 e2⟩, z3)].length < 900 := by show 2 < 900; decide
  have hj' : JoinOk ⟨#[]⟩ (wholeOf x a2 ([(pre ++ (⟨x.cps.extract b1 e1⟩ : Str), z2), (pre ++ ⟨x.cps.extract b2 e2⟩, z3)].map (·.1))) = true := hj
  refine sub_end (N := N) (n := 0 + 1 + 1) (done := a2) O3' P hl9 (.inl rfl) q1 h3 hx2 hj' ?_
  intro h4 tk4 t4 G4
  exact h h4 tk4 t4 G4

/-- no match -/
theorem sub_zero {p f : Addr} {code : Array Nat} {N : Nat} {x : Str} {t : Tok} {Q : Value → Shared → Prop} (P : PatAt s.heap p code 1) (hf : s.TypeIs (.ref f) "function") (hx : x.length ≤ 1048576) (hN : N ≤ 1000000)
    (h3 : Ends (Sre.forSearch code x.cps 1 0 x.cps.size false) N none) (hj : JoinOk ⟨#[]⟩ (wholeOf x 0 []) = true)
    (h : ∀ h' tk t', Grows s.heap h' → Q (.str (gluedOf x 0 []) t') { s with heap := h', toks := tk }) :
    wpAny (model prog w) A (call (.builtin "re.Pattern.sub") [.ref p, .ref f, .str x t]) Q E s := by
  have q1 : N + 1 ≤ 4 * 2 ^ 64 := by omega
  refine sub_start P hf fun l h1' O1 => ?_
  exact sub_end (N := N) (n := 0) (done := 0) (lst := []) O1 P (by show 0 < 900; decide) (.inl rfl) q1 h3 hx hj fun h4 tk4 t4 G4 => h h4 tk4 t4 G4

theorem esc_sub {p f : Addr} {v : PV} {t : Tok} {Q : Value → Shared → Prop} (P : PatAt s.heap p cEsc 1) (hf : s.TypeIs (.ref f) "function") (hl : LamOk prog w A.in1 s.heap f ⟨#[]⟩) (hv : v = .emp ∨ v = .semi ∨ v = .esc)
    (h : ∀ h' tk t', Grows s.heap h' → Q (.str ⟨(valL v).toArray⟩ t') { s with heap := h', toks := tk }) :
    wpAny (model prog w) A (call (.builtin "re.Pattern.sub") [.ref p, .ref f, .str ⟨(rawL v).toArray⟩ t]) Q E s := by
  have e0 := List.all_eq_true.mp esc_none
  rcases hv with rfl | rfl | rfl
  · exact sub_zero P hf (by decide) (by decide) (ends_of_N (e0 .emp (by simp))) (by decide) h
  · exact sub_zero P hf (by decide) (by decide) (ends_of_N (e0 .semi (by simp))) (by decide +kernel) h
  · exact sub_two (a1 := 2) (a2 := 4) (b1 := 1) (e1 := 2) (b2 := 3) (e2 := 4) P hf hl (by decide) (N := 400) (by decide) (ends_of_B esc_1) (ends_of_B esc_2) (ends_of_N esc_3) (by refine ⟨rfl, rfl, rfl, rfl, rfl, by decide, by decide⟩) (by refine ⟨rfl, rfl, rfl, rfl, rfl, by decide, by decide⟩) (by decide +kernel) h
theorem je_sub {p f : Addr} {v : PV} {t : Tok} {Q : Value → Shared → Prop} (P : PatAt s.heap p cJe 1) (hf : s.TypeIs (.ref f) "function") (hl : LamOk prog w A.in1 s.heap f ⟨#[92]⟩) (hv : v = .emp ∨ v = .semi ∨ v = .esc)
    (h : ∀ h' tk t', Grows s.heap h' → Q (.str ⟨(rawL v).toArray⟩ t') { s with heap := h', toks := tk }) :
    wpAny (model prog w) A (call (.builtin "re.Pattern.sub") [.ref p, .ref f, .str ⟨(valL v).toArray⟩ t]) Q E s := by
  have e0 := List.all_eq_true.mp je_none
  rcases hv with rfl | rfl | rfl
  · exact sub_zero P hf (by decide) (by decide) (ends_of_N (e0 .emp (by simp))) (by decide) h
  · exact sub_zero P hf (by decide) (by decide) (ends_of_N (e0 .semi (by simp))) (by decide +kernel) h
  · exact sub_two (a1 := 1) (a2 := 2) (b1 := 0) (e1 := 1) (b2 := 1) (e2 := 2) P hf hl (by decide) (N := 400) (by decide) (ends_of_B je_1) (ends_of_B je_2) (ends_of_N je_3) (by refine ⟨rfl, rfl, rfl, rfl, rfl, by decide, by decide⟩) (by refine ⟨rfl, rfl, rfl, rfl, rfl, by decide, by decide⟩) (by decide +kernel) h

theorem fullmatch_call {p : Addr} {code : Array Nat} {groups n : Nat} {x : Str} {t : Tok} {r : Option Mine.Hit} {Q : Value → Shared → Prop} (P : PatAt s.heap p code groups) (hg : groups ≤ 1) (hx : x.cps.size < 2 ^ 62)
    (hn : n + 1 ≤ 4 * 2 ^ 64) (he : Mine.Ends (Sre.forMatch code x.cps groups 0 x.cps.size true false) n r) (hw : ∀ y, r = some y → wrongSpan groups y = false)
    (h : match r with | none => Q .none s | some y => ∀ a h', Grows s.heap h' → s.heap.get? a = none → MatchAt h' a x groups y → Q (.ref a) { s with heap := h' }) :
    wpAny (model prog w) A (call (.builtin "re.Pattern.fullmatch") [.ref p, .str x t]) Q E s := by
  obtain ⟨o, ho, hc, hd⟩ := P.type
  refine wpAny_call_entry slot_fullmatch ⟨o, ho, hc⟩ entry_fullmatch ?_
  unfold Builtin.«re.Pattern.fullmatch»
  refine wpAny_bind (target_is P hx ?_)
  unfold reAnswer
  refine wpAny_bind (runToEnd_is hn he ?_)
  cases r with
  | none => exact wpAny_pure ⟨_, rfl, h⟩
  | some y =>
    intro m' hm'
    dsimp only
    refine wpAny_bind (newMatch_is hm' hg (hw y rfl) ?_)
    refine wpAny_pure ⟨_, rfl, h _ _ ((Grows.push _ _).trans (Grows.push _ _)) ?_ ?_⟩
    · rw [Heap.size_push]; exact Heap.get?_none_of_le (Nat.le_succ _)
    · refine ⟨t, .ref p, rawInt 0, rawInt x.cps.size, rawInt y.lastindex, s.heap.objs.size, { cls := .type "re.Match", data := .fields #[.str x t, .ref p, rawInt 0, rawInt x.cps.size, rawInt y.lastindex, .ref s.heap.objs.size] }, 0, { cls := .type "tuple", data := .seq (spansOf groups y).toArray }, ?_, rfl, rfl, rfl, Heap.get?_push_of_some _ (Heap.get?_push_size _ rfl), rfl⟩
      exact Heap.get?_push_size _ rfl
/-- a plain value: matched whole -/
theorem full_xy {p : Addr} {t : Tok} {Q : Value → Shared → Prop} (P : PatAt s.heap p cJt 0)
    (h : ∀ a h', Grows s.heap h' → s.heap.get? a = none → MatchAt h' a ⟨(valL .xy).toArray⟩ 0 ⟨0, 2, -1, -1, []⟩ → Q (.ref a) { s with heap := h' }) :
    wpAny (model prog w) A (call (.builtin "re.Pattern.fullmatch") [.ref p, .str ⟨(valL .xy).toArray⟩ t]) Q E s :=
  fullmatch_call P (by decide) (by decide) (n := 400) (by decide) (ends_of_B jt_hit) (fun y hy => by cases hy; rfl) h
theorem full_no {p : Addr} {v : PV} {t : Tok} {Q : Value → Shared → Prop} (P : PatAt s.heap p cJt 0) (hv : v = .emp ∨ v = .semi ∨ v = .esc) (h : Q .none s) :
    wpAny (model prog w) A (call (.builtin "re.Pattern.fullmatch") [.ref p, .str ⟨(valL v).toArray⟩ t]) Q E s := by
  have e0 := List.all_eq_true.mp jt_miss
  rcases hv with rfl | rfl | rfl
  · exact fullmatch_call (r := none) P (by decide) (by decide) (n := 400) (by decide) (ends_of_N (e0 .emp (by simp))) (fun y hy => by cases hy) h
  · exact fullmatch_call (r := none) P (by decide) (by decide) (n := 400) (by decide) (ends_of_N (e0 .semi (by simp))) (fun y hy => by cases hy) h
  · exact fullmatch_call (r := none) P (by decide) (by decide) (n := 400) (by decide) (ends_of_N (e0 .esc (by simp))) (fun y hy => by cases hy) h

theorem twin_join (x : Str) (hx : x.length ≤ 1048576) (h2 : 2 < x.cps.size) : JoinOk ⟨#[]⟩ (wholeOf x 2 [⟨#[]⟩]) = true := by
  unfold wholeOf JoinOk
  rw [if_pos h2]
  have e : ([(⟨#[]⟩ : Str)] ++ [(⟨x.cps.extract 2 x.cps.size⟩ : Str)]).toArray.foldl (fun a (y : Str) => a + y.length + (⟨#[]⟩ : Str).length) 0 = (x.cps.extract 2 x.cps.size).size := by
    simp [Str.length]
  rw [e, Bool.not_eq_true']
  unfold Builtin.Str.tooLong
  have hx' : x.cps.size ≤ 1048576 := hx
  refine decide_eq_false ?_
  rw [sizeLine_eq, Array.size_extract]
  omega
theorem twin_glued (k : Nat) (rest : List Nat) : gluedOf ⟨([59, 32, k] ++ rest).toArray⟩ 2 [⟨#[]⟩] = ⟨(k :: rest).toArray⟩ := by
  unfold gluedOf wholeOf
  rw [if_neg (by simp), if_pos (by simp)]
  have e : (([59, 32, k] ++ rest).toArray.extract 2 ([59, 32, k] ++ rest).toArray.size) = (k :: rest).toArray := by simp
  rw [e]
  show Txt.join ⟨#[]⟩ [⟨#[]⟩, ⟨(k :: rest).toArray⟩] = _
  unfold Txt.join Builtin.Str.glued
  simp [Str.empty]
/-- the junk between two pairs is struck -/
theorem twin_sub {p : Addr} {k : Nat} {rest : List Nat} {t zt : Tok} {Q : Value → Shared → Prop} (P : PatAt s.heap p cTwin 0) (hk : k = 97 ∨ k = 66) (hx : (⟨([59, 32, k] ++ rest).toArray⟩ : Str).length ≤ 1048576)
    (h : ∀ c h' tk t' t'', Grows s.heap h' → s.heap.get? c = none → h'.get? c = some { cls := .type "tuple", data := .seq [Value.str ⟨(k :: rest).toArray⟩ t', Value.int (0 + 1) t''].toArray } → Q (.ref c) { s with heap := h', toks := tk }) :
    wpAny (model prog w) A (call (.builtin "re.Pattern.subn") [.ref p, .str ⟨#[]⟩ zt, .str ⟨([59, 32, k] ++ rest).toArray⟩ t]) Q E s := by
  have hz : ([59, 32, k] ++ rest).length ≤ 1048576 := by simpa [Str.length] using hx
  have hsz : (([59, 32, k] ++ rest).toArray).size = ([59, 32, k] ++ rest).length := by simp
  have hmem : k ∈ [97, 66] := by rcases hk with rfl | rfl <;> simp
  have e1 := hit_of (List.all_eq_true.mp twin_hit k hmem) rest
  have e2 := miss_of (List.all_eq_true.mp twin_miss k hmem) rest
  rw [← hsz] at e1 e2
  refine subn_start P (by decide +kernel) fun l h1' O1 => ?_
  refine sub_text (N := 100) (n := 0) (done := 0) (y := ⟨0, 2, -1, -1, []⟩) O1 P (by show 0 < 900; decide) (by decide) e1 rfl rfl ?_
  intro h2' O2
  have O2' : Own s.heap h2' l (strValues [(⟨#[]⟩, zt)]) := O2
  refine subn_end (N := 1 + (2 * (([59, 32, k] ++ rest).toArray).size + 2)) (n := 0 + 1) (done := 2) (lst := [(⟨#[]⟩, zt)]) O2' P (by show 1 < 900; decide) (.inr ⟨rfl, _, _, rfl⟩) (by omega) e2 (by omega) (twin_join _ hx (by simp)) ?_
  intro c h' tk t' t'' G hc hg
  rw [show gluedOf ⟨([59, 32, k] ++ rest).toArray⟩ 2 ([((⟨#[]⟩ : Str), zt)].map (·.1)) = ⟨(k :: rest).toArray⟩ from twin_glued k rest] at hg
  exact h c h' tk t' t'' G hc hg
end
end Mine

set_option maxHeartbeats 400000
set_option Elab.async false
set_option maxRecDepth 100000
namespace Mine
open PySem PySem.Calls PyProof.Rows PySem.W
section
variable {prog : Program} {w : World} {A : Around} {E : Value → Shared → Prop} {s : Shared} {env : Env} {h₀ : Heap} {R : Result → Shared → Prop}

/-- the end of a turn: the loop goes on -/
def TurnEnd (h₀ : Heap) (L : Addr) (J : (Str → Option Value) → List (Addr × Obj) → Prop) (own : List (Addr × Obj)) (s : Shared) (f : Flow) (s₂ : Shared) : Prop :=
  f = .next ∧ ∃ h' tk m' nx, s₂ = { s with heap := h', toks := tk } ∧ Fr h₀ L h' m' ∧ News h₀ L h' nx ∧ (∀ p ∈ own, h'.get? p.1 = some p.2) ∧ (∀ q ∈ own, ∀ p ∈ nx, p.1 ≠ q.1) ∧ J m' nx
def Never (_ : Value) (_ : Shared) : Prop := False

theorem owned_go {target : Expr} {it : Addr} {o : Obj} {v : Value} {Q : Unit → Shared → Prop} (ho : s.heap.get? it = some o) (hc : o.cls = .type "list_iterator") (h : Q () s) : wpAny (model prog w) A (letOwnedTupleGo target (.ref it) v) Q E s := by
  unfold letOwnedTupleGo
  have key : wpAny (model prog w) A (do
      let (.ref r, .ref a) := (Value.ref it, v) | return
      let o ← load r
      match o.cls, o.data with
      | .type n, .fields vs =>
        if ["enumerate", "zip", "dict_itemiterator", "dict_reverseitemiterator", "odict_iterator", "itertools.zip_longest", "itertools.pairwise"].contains n && vs[0]? == some (rawInt a) then
          rule "for.unpacks-the-owned-tuple"
          updateField r 0 .none
      | _, _ => pure ()) Q E s := by
    cases v with
    | ref a =>
      dsimp only
      refine wpAny_bind (wpAny_load ho ?_)
      rw [hc]
      cases o.data with
      | fields vs =>
        dsimp only
        rw [if_neg (by simp)]
        exact wpAny_pure h
      | _ => exact wpAny_pure h
    | _ => exact wpAny_pure h
  cases target with
  | Tuple => exact key
  | List => exact key
  | _ => exact wpAny_pure h

theorem never_any {α : Type} {t : Sem α} {Q : α → Shared → Prop} (h : wpAny (model prog w) A t Q Never s) : wpAny (model prog w) A t Q E s := wpAny_mono h (fun _ _ q => q) fun _ _ q => q.elim

/-- a for over a list that stands, by an invariant over the frame's names and the ledger -/
theorem for_loop {target : Expr} {body : List Stmt} {l : Addr} {vs : List Value} {m₀ : Str → Option Value} {news : List (Addr × Obj)} (J : Nat → (Str → Option Value) → List (Addr × Obj) → Prop)
    (hh : A.handled = none) (F : Fr h₀ env.locals s.heap m₀) (N : News h₀ env.locals s.heap news) (hj : J 0 m₀ news)
    (hl : ∀ i m nx h, J i m nx → Fr h₀ env.locals h m → News h₀ env.locals h nx → h.IsList l vs.toArray)
    (turn : ∀ i v m₁ nx h tk own, vs[i]? = some v → J i m₁ nx → (∀ q ∈ own, ∀ p ∈ nx, p.1 ≠ q.1) → Fr h₀ env.locals h m₁ → News h₀ env.locals h (nx ++ own) →
      wpAny (model prog w) A (assign target env v) (fun _ s₂ => wpAny (model prog w) A (execs body env) (TurnEnd h₀ env.locals (J (i + 1)) own s) Never s₂) Never { s with heap := h, toks := tk })
    (done : ∀ m₁ nx h tk, J vs.length m₁ nx → Fr h₀ env.locals h m₁ → News h₀ env.locals h nx → R (.ok .next) { s with heap := h, toks := tk }) :
    wpAny (model prog w) A (pyIter (.ref l)) (fun it s₂ => codeAny (model prog w) A (.forLoop target it body [] env) R s₂) E s := by
  have hls := hl 0 m₀ news s.heap hj F N
  obtain ⟨ol, hol, _⟩ := id hls
  have hlt : l < s.heap.objs.size := Heap.lt_size hol
  refine wpAny_pyIter_list hls ?_
  refine codeAny_forLoop_any (fun k s' => ∃ i h tk m nx o, s' = { s with heap := h, toks := tk } ∧ i + k = vs.length ∧ h.get? s.heap.objs.size = some o ∧ h.IsListIter s.heap.objs.size l i ∧ Fr h₀ env.locals h m ∧ News h₀ env.locals h nx ∧ (∀ p ∈ nx, p.1 ≠ s.heap.objs.size) ∧ J i m nx ∧ s.heap.objs.size ≠ env.locals ∧ h₀.get? s.heap.objs.size = none) ?_ vs.length
    ⟨0, _, s.toks, m₀, news, _, rfl, Nat.zero_add _, Heap.get?_push_size _ rfl, ⟨_, Heap.get?_push_size _ rfl, rfl, rfl⟩, F.push _, (fun p hp => ⟨Heap.get?_push_of_some _ (N p hp).1, (N p hp).2⟩), fun p hp => Nat.ne_of_lt (Heap.lt_size (N p hp).1), hj, Nat.ne_of_gt F.ns.lt, ?_⟩
  · rintro k s' ⟨i, h, tk, m, nx, o, rfl, hik, ho, hit, F', N', hap, hJ, hIL, hI0⟩
    have hL := hl i m nx h hJ F' N'
    cases hv : vs[i]? with
    | none =>
      have hi : i = vs.length := by have := List.getElem?_eq_none_iff.mp hv; omega
      refine wpAny_pyNext_list_end hh hit hL (by simpa using hv) fun h' hx => wpAny_execs_nil ?_
      subst hi
      exact done m nx h' tk hJ ⟨F'.ns.extBut hx hIL.symm, fun b o' e => hx b o' (fun q => by rw [q, hI0] at e; cases e) (F'.keep b o' e), F'.above⟩ fun p hp => ⟨hx _ _ (hap p hp) (N' p hp).1, (N' p hp).2⟩
    | some v =>
      refine wpAny_pyNext_list_item hit hL (by simpa using hv) fun h' hit' hs => ?_
      obtain ⟨o', ho', hc', hd'⟩ := id hit'
      refine owned_go ho' hc' ?_
      have F'' : Fr h₀ env.locals h' m := ⟨F'.ns.extBut hs.extBut hIL.symm, fun b o' e => hs.extBut b o' (fun q => by rw [q, hI0] at e; cases e) (F'.keep b o' e), F'.above⟩
      have N'' : News h₀ env.locals h' (nx ++ [(s.heap.objs.size, o')]) := fun p hp => by
        rcases List.mem_append.mp hp with hp | hp
        · exact ⟨hs.extBut _ _ (hap p hp) (N' p hp).1, (N' p hp).2⟩
        · rw [List.mem_singleton.mp hp]
          exact ⟨ho', hIL, hI0⟩
      have hlen : i < vs.length := by obtain ⟨q, _⟩ := List.getElem?_eq_some_iff.mp hv; exact q
      refine never_any (wpAny_mono (turn i v m nx h' tk [(s.heap.objs.size, o')] hv hJ (fun q hq p hp => by rw [List.mem_singleton.mp hq]; exact hap p hp) F'' N'') (fun _ s₂ h₂ => never_any (wpAny_mono h₂ (fun f s₃ h₃ => ?_) fun _ _ q => q)) fun _ _ q => q)
      obtain ⟨rfl, h3, tk3, m3, nx3, rfl, F3, N3, ho3, hap3, hJ3⟩ := h₃
      have ho3' := ho3 _ (.head _)
      exact ⟨k - 1, by omega, i + 1, h3, tk3, m3, nx3, o', rfl, by omega, ho3', ⟨o', ho3', hc', hd'⟩, F3, N3, fun p hp => hap3 _ (.head _) p hp, hJ3, hIL, hI0⟩
  · exact Heap.get?_none_of_le (Nat.le_trans F.above (Nat.le_of_lt F.ns.lt))

/-- a while, by an invariant and a measure -/
theorem while_loop {test : Expr} {body : List Stmt} {m₀ : Str → Option Value} {news : List (Addr × Obj)} {n₀ : Nat} (J : Nat → (Str → Option Value) → List (Addr × Obj) → Prop)
    (F : Fr h₀ env.locals s.heap m₀) (N : News h₀ env.locals s.heap news) (hj : J n₀ m₀ news)
    (turn : ∀ n m₁ nx h tk, J n m₁ nx → Fr h₀ env.locals h m₁ → News h₀ env.locals h nx →
      wpAny (model prog w) A (isTrue test env (eval test env)) (fun b s₂ => if b = true then
        wpAny (model prog w) A (execs body env) (TurnEnd h₀ env.locals (fun m nx => ∃ n', n' < n ∧ J n' m nx) [] s) Never s₂ else R (.ok .next) s₂) Never { s with heap := h, toks := tk }) :
    codeAny (model prog w) A (.whileLoop test body [] env) R s := by
  refine codeAny_whileLoop (fun n s' => ∃ h tk m nx, s' = { s with heap := h, toks := tk } ∧ Fr h₀ env.locals h m ∧ News h₀ env.locals h nx ∧ J n m nx) ?_ n₀ ⟨s.heap, s.toks, m₀, news, rfl, F, N, hj⟩
  rintro n s' ⟨h, tk, m, nx, rfl, F', N', hJ⟩
  refine never_any (wpAny_mono (turn n m nx h tk hJ F' N') (fun b s₂ h₂ => ?_) fun _ _ q => q)
  cases b with
  | false =>
    simp only [Bool.false_eq_true, if_false] at h₂ ⊢
    exact wpAny_execs_nil h₂
  | true =>
    simp only [if_true] at h₂ ⊢
    refine never_any (wpAny_mono h₂ (fun f s₃ h₃ => ?_) fun _ _ q => q)
    obtain ⟨rfl, h3, tk3, m3, nx3, rfl, F3, N3, _, _, n', hn', hJ3⟩ := h₃
    exact ⟨n', hn', h3, tk3, m3, nx3, rfl, F3, N3, hJ3⟩
end
end Mine

set_option maxHeartbeats 400000
set_option Elab.async false
set_option maxRecDepth 100000
namespace Mine
open PySem PySem.Calls PyProof.Rows PySem.W
/-- the walk stops here -/
def Stop (p : Prop) : Prop := p
theorem Stop.mk {p : Prop} (h : Stop p) : p := h
theorem owned_go_r {prog : Program} {w : World} {A : Around} {E : Value → Shared → Prop} {s : Shared} {target : Expr} {it : Addr} {o : Obj} {v : Value} {Q : Unit → Shared → Prop} (ho : s.heap.get? it = some o) (hc : o.cls = .type "range_iterator") (h : Q () s) : wpAny (model prog w) A (letOwnedTupleGo target (.ref it) v) Q E s := by
  unfold letOwnedTupleGo
  have key : wpAny (model prog w) A (do
      let (.ref r, .ref a) := (Value.ref it, v) | return
      let o ← load r
      match o.cls, o.data with
      | .type n, .fields vs =>
        if ["enumerate", "zip", "dict_itemiterator", "dict_reverseitemiterator", "odict_iterator", "itertools.zip_longest", "itertools.pairwise"].contains n && vs[0]? == some (rawInt a) then
          rule "for.unpacks-the-owned-tuple"
          updateField r 0 .none
      | _, _ => pure ()) Q E s := by
    cases v with
    | ref a =>
      dsimp only
      refine wpAny_bind (wpAny_load ho ?_)
      rw [hc]
      cases o.data with
      | fields vs =>
        dsimp only
        rw [if_neg (by simp)]
        exact wpAny_pure h
      | _ => exact wpAny_pure h
    | _ => exact wpAny_pure h
  cases target with
  | Tuple => exact key
  | List => exact key
  | _ => exact wpAny_pure h
/-- a for over a range, by an invariant over the frame's names and the ledger -/
theorem for_range {prog : Program} {w : World} {A : Around} {E : Value → Shared → Prop} {s : Shared} {env : Env} {h₀ : Heap} {R : Result → Shared → Prop} {target : Expr} {body : List Stmt} {r : Addr} {b : Int} {t u v : Tok} {n : Nat} {m₀ : Str → Option Value} {news : List (Addr × Obj)} (J : Nat → (Str → Option Value) → List (Addr × Obj) → Prop)
    (hh : A.handled = none) (hr : IsRange s.heap r 0 b 1 t u v) (hsmall : Builtin.Range.small 0 b 1 = true) (hsz : Builtin.Range.rangeSize 0 b 1 = (n : Int)) (F : Fr h₀ env.locals s.heap m₀) (N : News h₀ env.locals s.heap news) (hj : J 0 m₀ news)
    (turn : ∀ (i : Nat) t m₁ nx h tk own, i < n → J i m₁ nx → (∀ q ∈ own, ∀ p ∈ nx, p.1 ≠ q.1) → Fr h₀ env.locals h m₁ → News h₀ env.locals h (nx ++ own) →
      wpAny (model prog w) A (assign target env (.int (i : Int) t)) (fun _ s₂ => wpAny (model prog w) A (execs body env) (TurnEnd h₀ env.locals (J (i + 1)) own s) Never s₂) Never { s with heap := h, toks := tk })
    (done : ∀ m₁ nx h tk, J n m₁ nx → Fr h₀ env.locals h m₁ → News h₀ env.locals h nx → R (.ok .next) { s with heap := h, toks := tk }) :
    wpAny (model prog w) A (pyIter (.ref r)) (fun it s₂ => codeAny (model prog w) A (.forLoop target it body [] env) R s₂) E s := by
  refine wpAny_pyIter_range hr hsmall ?_
  rw [hsz]
  refine codeAny_forLoop_any (fun k s' => ∃ i h tk m nx, s' = { s with heap := h, toks := tk } ∧ i + k = n ∧ IsRangeIter h s.heap.objs.size (i : Int) ((n : Int) - (i : Int)) 1 ∧ Fr h₀ env.locals h m ∧ News h₀ env.locals h nx ∧ (∀ p ∈ nx, p.1 ≠ s.heap.objs.size) ∧ J i m nx ∧ s.heap.objs.size ≠ env.locals ∧ h₀.get? s.heap.objs.size = none) ?_ n
    ⟨0, _, s.toks, m₀, news, rfl, Nat.zero_add _, by simpa using Heap.get?_push_size s.heap rfl, F.push _, (fun p hp => ⟨Heap.get?_push_of_some _ (N p hp).1, (N p hp).2⟩), fun p hp => Nat.ne_of_lt (Heap.lt_size (N p hp).1), hj, Nat.ne_of_gt F.ns.lt, ?_⟩
  · rintro k s' ⟨i, h, tk, m, nx, rfl, hik, hit, F', N', hap, hJ, hIL, hI0⟩
    by_cases hlt : i < n
    · refine wpAny_pyNext_range_item hit (by omega) fun h' hit' hs => ?_
      refine owned_go_r hit' rfl ?_
      have F'' : Fr h₀ env.locals h' m := ⟨F'.ns.extBut hs.extBut hIL.symm, fun b o' e => hs.extBut b o' (fun q => by rw [q, hI0] at e; cases e) (F'.keep b o' e), F'.above⟩
      refine never_any (wpAny_mono (turn i _ m nx h' _ [(s.heap.objs.size, _)] hlt hJ (fun q hq p hp => by rw [List.mem_singleton.mp hq]; exact hap p hp) F'' (fun p hp => by
        rcases List.mem_append.mp hp with hp | hp
        · exact ⟨hs.extBut _ _ (hap p hp) (N' p hp).1, (N' p hp).2⟩
        · rw [List.mem_singleton.mp hp]
          exact ⟨hit', hIL, hI0⟩)) (fun _ s₂ h₂ => never_any (wpAny_mono h₂ (fun f s₃ h₃ => ?_) fun _ _ q => q)) fun _ _ q => q)
      obtain ⟨rfl, h3, tk3, m3, nx3, rfl, F3, N3, ho3, hap3, hJ3⟩ := h₃
      have ho3' := ho3 _ (.head _)
      refine ⟨k - 1, by omega, i + 1, h3, tk3, m3, nx3, rfl, by omega, ?_, F3, N3, fun p hp => hap3 _ (.head _) p hp, hJ3, hIL, hI0⟩
      have e1 : (((i + 1 : Nat) : Int)) = (i : Int) + 1 := by omega
      have e2 : (n : Int) - ((i + 1 : Nat) : Int) = (n : Int) - (i : Int) - 1 := by omega
      rw [e2, e1]
      exact ho3'
    · have hi : i = n := by omega
      subst hi
      refine wpAny_pyNext_range_end hh hit (by omega) fun h' hx => wpAny_execs_nil ?_
      exact done m nx h' tk hJ ⟨F'.ns.extBut hx hIL.symm, fun b o' e => hx b o' (fun q => by rw [q, hI0] at e; cases e) (F'.keep b o' e), F'.above⟩ fun p hp => ⟨hx _ _ (hap p hp) (N' p hp).1, (N' p hp).2⟩
  · exact Heap.get?_none_of_le (Nat.le_trans F.above (Nat.le_of_lt F.ns.lt))
end Mine

local macro_rules | `(tactic| walk_at "pyIter ref") => `(tactic| ((with_reducible show PySem.wpAny _ _ (PySem.pyIter (PySem.Value.ref _)) (fun it s₂ => PySem.codeAny _ _ (.forLoop _ it _ _ _) _ s₂) _ _); k_dflt (refine Mine.Stop.mk ?_)))
set_option Elab.async false
set_option maxRecDepth 100000
set_option maxHeartbeats 8000000
set_option pp.maxSteps 6000
set_option pp.deepTerms false
namespace Mine
open PySem PySem.Calls PyProof.Rows PySem.W PySem.Builtin.Re
theorem m_has {m : Str → Option Value} {a : Str} {v : Value} (h : m a = some v) : m = fun y => if y = a then some v else m y := by
  funext y
  by_cases e : y = a
  · rw [if_pos e, e, h]
  · rw [if_neg e]
theorem allLt_lt {d : Nat} : ∀ {l : List (Addr × Obj)}, AllLt d l → ∀ p ∈ l, p.1 < d
  | [], _, p, hp => (nomatch hp)
  | q :: r, h, p, hp => by
    rcases List.mem_cons.mp hp with rfl | hp
    · exact h.1
    · exact allLt_lt h.2 p hp
theorem turn_end {h₀ : Heap} {L : Addr} {J : (Str → Option Value) → List (Addr × Obj) → Prop} {own big : List (Addr × Obj)} {s : Shared} {h' : Heap} {tk : Nat} {m' : Str → Option Value} (nx : List (Addr × Obj)) (F : Fr h₀ L h' m') (N : News h₀ L h' big) (hb : ∀ p ∈ nx, p ∈ big) (ho : ∀ p ∈ own, p ∈ big)
    (hs : ∀ q ∈ own, ∀ p ∈ nx, p.1 ≠ q.1) (hJ : J m' nx) : TurnEnd h₀ L J own s .next { s with heap := h', toks := tk } :=
  ⟨rfl, h', tk, m', nx, rfl, F, fun p hp => N p (hb p hp), fun p hp => (N p (ho p hp)).1, hs, hJ⟩
def keyS (b : Bool) : Str := ⟨(keyL b).toArray⟩
def valS (v : PV) : Str := ⟨(valL v).toArray⟩
def pvD : PV → Dat
  | .non => .none
  | v => .str (valS v)
def pairD (p : Bool × PV) : Dat := .tuple [.str (keyS p.1), pvD p.2]
def rowD (r : List (Bool × PV)) : Dat := .list (r.map pairD)

theorem wordsLr1 : True := by
  k_with_none
  k_with "exec For Name Call cons nil" => ((with_reducible show wpAny _ _ (exec (Stmt.For _ _ _ _ _) _) _ _ _); k_dflt (refine wpAny_For ?_ ?_))
  k_with "exec For" => ((with_reducible show wpAny _ _ (exec (Stmt.For _ _ _ _ _) _) _ _ _); k_dflt (refine wpAny_For ?_ ?_))
  trivial

theorem fm2 (y : Int) : 0 ≤ y.fmod 2 ∧ y.fmod 2 < 2 := ⟨Int.fmod_nonneg_of_pos y (by decide), Int.fmod_lt_of_pos y (by decide)⟩
theorem fd2 (y : Int) : 0 ≤ (y.fmod 10).fdiv 2 ∧ (y.fmod 10).fdiv 2 < 5 := by
  have h1 : 0 ≤ y.fmod 10 := Int.fmod_nonneg_of_pos y (by decide)
  have h2 : y.fmod 10 < 10 := Int.fmod_lt_of_pos y (by decide)
  rw [Int.fdiv_eq_ediv_of_nonneg _ (by decide)]
  omega
theorem key_of {k : Int} {x : Value} {t u : Tok} (h : [Value.str (Str.ofString "a") t, Value.str (Str.ofString "Bc") u][k.toNat]? = some x) : ∃ b tb, x = .str (keyS b) tb := by
  generalize k.toNat = n at h
  match n, h with
  | 0, h => exact ⟨false, t, by injection h with h; rw [← h]; rfl⟩
  | 1, h => exact ⟨true, u, by injection h with h; rw [← h]; rfl⟩
theorem val_of {k : Int} {x : Value} {t0 t1 t2 t3 : Tok} (h : [Value.none, Value.str (Str.ofString "xY") t0, Value.str (Str.ofString "") t1, Value.str (Str.ofString "y; z=, ") t2, Value.str (Str.ofString "\\\"") t3][k.toNat]? = some x) : ∃ v, (x = .none ∧ v = PV.non) ∨ ∃ t, x = .str (valS v) t ∧ v ≠ .non := by
  generalize k.toNat = n at h
  match n, h with
  | 0, h => exact ⟨.non, .inl ⟨by injection h with h; exact h.symm, rfl⟩⟩
  | 1, h => exact ⟨.xy, .inr ⟨t0, by injection h with h; rw [← h]; rfl, by decide⟩⟩
  | 2, h => exact ⟨.emp, .inr ⟨t1, by injection h with h; rw [← h]; rfl, by decide⟩⟩
  | 3, h => exact ⟨.semi, .inr ⟨t2, by injection h with h; rw [← h]; rfl, by decide⟩⟩
  | 4, h => exact ⟨.esc, .inr ⟨t3, by injection h with h; rw [← h]; rfl, by decide⟩⟩
theorem item_sym {prog : Program} {w : World} {A : Around} {E : Value → Shared → Prop} {s : Shared} {h₀ : Heap} {L l : Addr} {news : List (Addr × Obj)} {vs : List Value} {c : Nat} {value slice : Expr} {k : Int} {u : Tok} {Q : Value → Shared → Prop} (N : News h₀ L s.heap news) (hm : (l, W.listOf vs.toArray c) ∈ news)
    (h0 : 0 ≤ k) (h1 : k < (vs.length : Int)) (h2 : vs.length ≤ 1000000) (h : ∀ x, vs[k.toNat]? = some x → Q x s)
    (hs : subscripted slice false (.ref l) (.int k u) = operate [.ref l, .int k u] (getItem (.ref l) (.int k u)) := by with_unfolding_all rfl) (hg : ∀ r, letTemporaryGo value (.ref l) r = pure () := by intro _; with_unfolding_all rfl) :
    wpAny (model prog w) A (subscriptTail value slice (.ref l) (.int k u)) Q E s := by
  have hk : k.toNat < vs.length := by omega
  refine item_list (x := vs[k.toNat]) (show s.heap.IsList l vs.toArray from ⟨_, (N _ hm).1, rfl, c, rfl⟩) h0 (by omega) (by simp [hk]) (h _ (by simp [hk])) hs hg
theorem wordsLr2 : True := by
  k_with "binaryOp FloorDiv int int" => ((rename ((10 : Int) ^ _ ≠ 0) => h10'ₖ); (rename (Nat.log2 _ < 9000) => h10''ₖ); k_dflt (refine floordiv_int h10'ₖ ?_ (.inl (PyProof.noPylong_of_log2 h10''ₖ))); (try dsimp only))
  k_with "subscriptTail List cons BinOp ref int" => ((rename News _ _ _ _ => N'ₖ); k_dflt (refine kba_turn (value' := PySem.Expr.Name (PySem.Str.ofString "_") ⟨0, 0, 0, 0⟩) (fun _ => rfl) (item_sym N'ₖ (List.Mem.head _) ?h0 ?h1 ?h2 ?_ ?hs ?hg); (case h0 => first | exact (fm2 _).1 | exact (fd2 _).1); (case h1 => first | exact (fm2 _).2 | exact (fd2 _).2); (case h2 => exact Nat.le_of_ble_eq_true rfl); (case hs => with_unfolding_all rfl); (case hg => intro _; with_unfolding_all rfl); refine Stop.mk ?_))
  k_with "callWith builtin:list.append cons nil" => k_dflt (refine callWith_method1 ?_)
  k_with "eval Call Name cons nil" => k_dflt (refine Call_ ?_)
  k_with "eval Call Attribute cons nil" => k_dflt (refine MethodCall_ ?_)
  k_with "call builtin:list.append cons nil" => (k_dflt (refine' append_K ?k1 ?k2 ?k3 ?_ ?z; (case k1 => k_asm); (case k2 => k_asm); (case k3 => k_upd); (case z => assumption); k_whole); intro h'ₖ F'ₖ N'ₖ; (try dsimp only))
  trivial
def RowJ (l' : Addr) (x : Int) (t : Tok) (i : Nat) (m : Str → Option Value) (nx : List (Addr × Obj)) : Prop :=
  ∃ (vs : List Value) (k : Nat) (tl : List (Addr × Obj)) (r : List (Bool × PV)), nx = (l', W.listOf vs.toArray k) :: tl ∧ OwnOff tl [l'] ∧ DatAll tl vs (r.map pairD) ∧ r.length = i ∧ m (Str.ofString "row") = some (.ref l') ∧ m (Str.ofString "x") = some (.int x t)
theorem row_turn {h₀ : Heap} {L l' D : Addr} {e1 e2 : Addr × Obj} {x : Int} {t tb : Tok} {i k : Nat} {vs : List Value} {tl own : List (Addr × Obj)} {r : List (Bool × PV)} {b : Bool} {vv : Value} {pv : PV} {s : Shared} {h' : Heap} {tk : Nat} {m' : Str → Option Value} (F : Fr h₀ L h' m')
    (N : News h₀ L h' ((D, { cls := Value.type "tuple", data := Data.seq #[Value.str (keyS b) tb, vv] }) :: e1 :: e2 :: (l', W.listOf (vs.toArray.push (.ref D)) (k + 1)) :: (tl ++ own)))
    (lt : @LT.lt Nat _ e1.1 D ∧ @LT.lt Nat _ e2.1 D ∧ @LT.lt Nat _ l' D ∧ AllLt D (tl ++ own)) (hoff : OwnOff (tl ++ own) [l']) (hown : ∀ q ∈ own, ∀ p ∈ (l', W.listOf vs.toArray k) :: tl, p.1 ≠ q.1) (hD : DatAll tl vs (r.map pairD)) (hr : r.length = i) (hv : ∀ nx, DatIn nx vv (pvD pv))
    (hm1 : m' (Str.ofString "row") = some (.ref l')) (hm2 : m' (Str.ofString "x") = some (.int x t)) : TurnEnd h₀ L (RowJ l' x t (i + 1)) own s .next { s with heap := h', toks := tk } := by
  obtain ⟨_, _, l1, l2⟩ := lt
  have l3 := allLt_lt l2
  refine turn_end ((l', W.listOf (vs ++ [Value.ref D]).toArray (k + 1)) :: (D, { cls := Value.type "tuple", data := Data.seq #[Value.str (keyS b) tb, vv] }) :: tl) F N ?_ ?_ ?_ ?_
  · intro p hp
    rcases List.mem_cons.mp hp with rfl | hp
    · refine .tail _ (.tail _ (.tail _ ?_))
      rw [show (vs ++ [Value.ref D]).toArray = vs.toArray.push (Value.ref D) from (List.push_toArray vs (Value.ref D)).symm]
      exact .head _
    · rcases List.mem_cons.mp hp with rfl | hp
      · exact .head _
      · exact .tail _ (.tail _ (.tail _ (.tail _ (List.mem_append.mpr (.inl hp)))))
  · intro p hp
    exact .tail _ (.tail _ (.tail _ (.tail _ (List.mem_append.mpr (.inr hp)))))
  · intro q hq p hp
    rcases List.mem_cons.mp hp with rfl | hp
    · exact hown q hq (l', W.listOf vs.toArray k) (.head _)
    · rcases List.mem_cons.mp hp with rfl | hp
      · exact Nat.ne_of_gt (l3 q (List.mem_append.mpr (.inr hq)))
      · exact hown q hq _ (.tail _ hp)
  · refine ⟨vs ++ [Value.ref D], k + 1, (D, { cls := Value.type "tuple", data := Data.seq #[Value.str (keyS b) tb, vv] }) :: tl, r ++ [(b, pv)], rfl, ?_, ?_, ?_, hm1, hm2⟩
    · intro p hp c hc
      rw [List.mem_singleton.mp hc]
      rcases List.mem_cons.mp hp with rfl | hp
      · exact Nat.ne_of_gt l1
      · exact hoff p (List.mem_append.mpr (.inl hp)) _ (.head _)
    · rw [List.map_append]
      refine (DatAll.mono (fun p hp => .tail _ hp) hD).append (DatAll.one ?_)
      exact DatIn.tuple (n := 0) (vs := [Value.str (keyS b) tb, vv]) (.head _) (.cons (.str _ _) (.cons (hv _) .nil))
    · rw [List.length_append, hr]; rfl
section
variable {w : World} {p : Program} {loose : List Str} {mean : ExcName → Option Value} {mg mb : Str → Option Value} {dp un : Nat} {fr : Option (List Env)} {gd : Option (List Code)} {s : Shared} {Q E : Value → Shared → Prop}

theorem row_c {x : Int} {t : Tok} (X : (hd.heap_39 w.params).In s.heap) (T : Top p loose mean mg mb s.heap) (hd : dp + 1 < recursionLimit) (hu : un + 40 < cLine)
    (h : ∀ h' tk' a add r, Grows s.heap h' → (∀ p ∈ add, h'.get? p.1 = some p.2 ∧ s.heap.get? p.1 = none) → DatIn add (.ref a) (rowD r) → 1 ≤ r.length → r.length ≤ 3 → Q (.ref a) { s with heap := h', toks := tk' }) :
    wpAny (model PySem.Challenge.rw_ik0003_01.row.prog w) (Ar dp fr gd un) (call (.ref 138) [.int x t]) Q E s := by
  refine wpAny_call ?_
  refine' enter_K (binds := [(Str.ofString "x", .int x t)]) [] ?k0 X T.nolimit ?k6 ?k7 ?k8 ?k9 ?kB ?_ ?c2 ?c3 ?c4 ?c5
  case k6 => k_is
  case k7 => k_is
  case k0 => exact List.forall_mem_nil _
  case k8 => (show dp < recursionLimit; omega)
  case k9 => exact BindsTo.of_eq rfl
  case kB => exact locs rfl
  case c2 => exact rfl
  case c3 => exact rfl
  case c4 => exact rfl
  case c5 => decide
  intro L' h₁ F N _
  replace F : Fr s.heap L' h₁ (fun y => List.lookup y [(Str.ofString "x", .int x t)]) := F
  replace N : News s.heap L' h₁ [] := N
  (try dsimp only)
  refine hide_Q fun Qg eQ => ?_
  k_steps
  rename Fr _ _ _ _ => F'
  rename News _ _ _ _ => N'
  rename IsRange _ _ _ _ _ _ _ _ => R'
  unfold Stop
  rename_i l' _ _ _ _ _ _ _ _ _ _ _
  have hf : 0 ≤ x.fmod 3 := Int.fmod_nonneg_of_pos x (by decide)
  have hf2 : x.fmod 3 < 3 := Int.fmod_lt_of_pos x (by decide)
  obtain ⟨n, hn⟩ : ∃ n : Nat, 1 + x.fmod 3 = (n : Int) := ⟨(1 + x.fmod 3).toNat, by omega⟩
  rw [hn] at R'
  have hn3 : n ≤ 3 := by omega
  have hn1 : 1 ≤ n := by omega
  refine for_range (n := n) (RowJ l' x t) rfl R' ?_ ?_ F' N' ?_ ?_ ?_
  · rcases (show n = 1 ∨ n = 2 ∨ n = 3 by omega) with rfl | rfl | rfl <;> decide
  · rcases (show n = 1 ∨ n = 2 ∨ n = 3 by omega) with rfl | rfl | rfl <;> decide
  · exact ⟨[], 0, [], [], rfl, fun _ hp => (nomatch hp), .nil, rfl, rfl, rfl⟩
  · rintro i ti m₁ nx hh tk own hi ⟨vs, k, tl, r, rfl, hoff, hD, hr, hm1, hm2⟩ hown F₂ N₂
    clear F' N'
    rw [m_has hm1, m_has hm2] at F₂
    have hi3 : i < 3 := by omega
    have o1 : OwnOff (tl ++ own) [l'] := by
      intro p hp b hb
      rw [List.mem_singleton.mp hb]
      rcases List.mem_append.mp hp with hp | hp
      · exact hoff p hp _ (.head _)
      · exact fun e => hown p hp _ (.head _) e.symm
    replace N₂ : News s.heap L' hh ((l', W.listOf vs.toArray k) :: (tl ++ own)) := N₂
    have h10 : (10 : Int) ^ ((i : Int)).toNat ≠ 0 := by rcases (show i = 0 ∨ i = 1 ∨ i = 2 by omega) with rfl | rfl | rfl <;> decide
    have h11 : Nat.log2 ((10 : Int) ^ ((i : Int)).toNat).natAbs < 9000 := by rcases (show i = 0 ∨ i = 1 ∨ i = 2 by omega) with rfl | rfl | rfl <;> decide +kernel
    have hvs : vs.toArray.size ≤ sizeLine := by have := hD.length; rw [List.length_map] at this; rw [List.size_toArray, sizeLine_eq]; omega
    k_steps
    intro xk hxk
    obtain ⟨b, tb, rfl⟩ := key_of hxk
    clear hxk
    (try dsimp only)
    k_steps
    intro xv hxv
    obtain ⟨v, hv⟩ := val_of hxv
    clear hxv
    rcases hv with ⟨rfl, rfl⟩ | ⟨tv, rfl, hv⟩
    all_goals (try dsimp only)
    all_goals k_steps
    all_goals (rename Fr _ _ _ _ => F'; rename News _ _ _ _ => N')
    · rename _ ∧ _ ∧ _ ∧ AllLt _ _ => lt'
      exact row_turn (pv := .non) F' N' lt' o1 hown hD hr (fun _ => .none) rfl rfl
    · rename _ ∧ _ ∧ _ ∧ AllLt _ _ => lt'
      refine row_turn (pv := v) F' N' lt' o1 hown hD hr (fun nx => ?_) rfl rfl
      cases v <;> first | exact absurd rfl hv | exact .str _ _
  · rintro m₁ nx hh tk ⟨vs, k, tl, r, rfl, hoff, hD, hr, hm1, hm2⟩ F₂ N₂
    clear F' N'
    rw [m_has hm1, m_has hm2] at F₂
    k_steps
    subst eQ
    (try dsimp only)
    exact h hh _ l' ((l', W.listOf vs.toArray k) :: tl) r F₂.keep (fun p hp => ⟨(N₂ p hp).1, (N₂ p hp).2.2⟩) (DatIn.list (.head _) (DatAll.mono (fun p hp => .tail _ hp) hD)) (by omega) (by omega)
end
end Mine

set_option maxHeartbeats 400000
set_option Elab.async false
set_option maxRecDepth 100000
namespace Mine
open PySem PySem.Calls PyProof.Rows PySem.W
/-- what one element of a comprehension leaves -/
def EltEnd (g : Heap) (C : Addr) (J : List (Addr × Obj) → Prop) (own : List (Addr × Obj)) (s s₂ : Shared) : Prop :=
  ∃ h' tk m' nx, s₂ = { s with heap := h', toks := tk } ∧ Fr g C h' m' ∧ News g C h' nx ∧ (∀ p ∈ own, h'.get? p.1 = some p.2) ∧ (∀ q ∈ own, ∀ p ∈ nx, p.1 ≠ q.1) ∧ J nx
theorem elt_end {g : Heap} {C : Addr} {J : List (Addr × Obj) → Prop} {own big : List (Addr × Obj)} {s : Shared} {h' : Heap} {tk : Nat} {m' : Str → Option Value} (nx : List (Addr × Obj)) (F : Fr g C h' m') (N : News g C h' big) (hb : ∀ p ∈ nx, p ∈ big) (ho : ∀ p ∈ own, p ∈ big)
    (hs : ∀ q ∈ own, ∀ p ∈ nx, p.1 ≠ q.1) (hJ : J nx) : EltEnd g C J own s { s with heap := h', toks := tk } :=
  ⟨h', tk, m', nx, rfl, F, fun p hp => N p (hb p hp), fun p hp => (N p (ho p hp)).1, hs, hJ⟩
section
variable {prog : Program} {w : World} {A : Around} {E : Value → Shared → Prop} {s : Shared} {env cenv : Env} {g : Heap} {R : Result → Shared → Prop} {elt target iter : Expr} {ifs : List Expr} {scope : Scope} {pos : Pos}
abbrev testsOf (cenv : Env) (ifs : List Expr) : Sem Bool := forIn ifs true fun c r => if r = true then do let ok ← isTrue c cenv (eval c cenv); pure (ForInStep.yield ok) else pure (ForInStep.yield r)

theorem compLoop_own {it acc : Value} (I : Nat → Shared → Prop)
    (turn : ∀ n s, I n s → wpAny (model prog w) A (pyNext it) (fun r s₁ => match r with
      | none => R (.ok .next) s₁
      | some v => wpAny (model prog w) A (letOwnedTupleGo target it v) (fun _ s₁' => wpAny (model prog w) A (assign target env v) (fun _ s₂ =>
          wpAny (model prog w) A (testsOf env ifs) (fun ok s₃ =>
            if ok = true then wpAny (model prog w) A (eval elt env) (fun x s₄ =>
              wpAny (model prog w) A (call (.builtin "list.append") [acc, x]) (fun _ s₅ => ∃ m, m < n ∧ I m s₅) Never s₄) Never s₃
            else ∃ m, m < n ∧ I m s₃) Never s₂) Never s₁') Never s₁) Never s)
    (n : Nat) (h : I n s) :
    codeAny (model prog w) A (.compLoop (.ListComp elt [⟨target, iter, ifs, 0⟩] scope pos) 0 it acc env) R s := by
  refine codeAny_loop rfl I (fun n s hI => ?_) n h
  show wpAny _ A ((compTurn (.ListComp elt [⟨target, iter, ifs, 0⟩] scope pos) 0 it acc env).onRaise (fun x => do noteFrame x env; theTreesLotGoes x)) _ _ s
  refine wpAny_noted ?_
  rw [compTurn_list]
  refine wpAny_bind (wpAny_standAt (wpAny_bind (never_any (wpAny_mono (turn n s hI) (fun r s₁ h₁ => ?_) fun _ _ h' => h'))))
  cases r with
  | none => exact wpAny_pure h₁
  | some v =>
    refine wpAny_bind (never_any (wpAny_mono h₁ (fun _ s₁' h₁' => ?_) fun _ _ h' => h'))
    refine never_any (wpAny_bind (wpAny_mono h₁' (fun _ s₂ h₂ => wpAny_bind (wpAny_mono h₂ (fun ok s₃ h₃ => ?_) fun _ _ h' => h')) fun _ _ h' => h'))
    cases ok with
    | false => exact wpAny_pure ⟨rfl, h₃⟩
    | true =>
      exact wpAny_bind (wpAny_bind (wpAny_mono h₃ (fun x s₄ h₄ => wpAny_bind (wpAny_mono h₄ (fun _ s₅ h₅ => wpAny_pure (wpAny_pure ⟨rfl, h₅⟩)) fun _ _ h' => h')) fun _ _ h' => h'))

/-- the turns of a one-clause comprehension over a list that stood before it -/
theorem comp_turns {l I D : Addr} {vs : List Value} {m₀ : Str → Option Value} {nx₀ : List (Addr × Obj)} (J : Nat → List Value → List (Addr × Obj) → Prop) (hh : A.handled = none)
    (F : Fr g env.locals s.heap m₀) (N : News g env.locals s.heap nx₀) (hj : J 0 [] nx₀) (hl : g.IsList l vs.toArray) (hvs : vs.length ≤ 1000000)
    (hI : s.heap.IsListIter I l 0) (hIC : I ≠ env.locals) (hI0 : g.get? I = none) (hIn : ∀ p ∈ nx₀, p.1 ≠ I)
    (hD : s.heap.get? D = some (W.listOf #[] 0)) (hDC : D ≠ env.locals) (hD0 : g.get? D = none) (hDn : ∀ p ∈ nx₀, p.1 ≠ D) (hID : I ≠ D)
    (turn : ∀ i v ys m₁ nx h tk own, vs[i]? = some v → J i ys nx → (∀ q ∈ own, ∀ p ∈ nx, p.1 ≠ q.1) → Fr g env.locals h m₁ → News g env.locals h (nx ++ own) →
      wpAny (model prog w) A (assign target env v) (fun _ s₂ => wpAny (model prog w) A (testsOf env ifs) (fun ok s₃ =>
        if ok = true then wpAny (model prog w) A (eval elt env) (fun y s₄ => EltEnd g env.locals (J (i + 1) (ys ++ [y])) own s s₄) Never s₃ else EltEnd g env.locals (J (i + 1) ys) own s s₃) Never s₂) Never { s with heap := h, toks := tk })
    (done : ∀ ys k m₁ nx h tk, J vs.length ys nx → Fr g env.locals h m₁ → News g env.locals h ((D, W.listOf ys.toArray k) :: nx) → (∀ p ∈ nx, p.1 ≠ D) → R (.ok .next) { s with heap := h, toks := tk }) :
    codeAny (model prog w) A (.compLoop (.ListComp elt [⟨target, iter, ifs, 0⟩] scope pos) 0 (.ref I) (.ref D) env) R s := by
  refine compLoop_own (fun k s' => ∃ i h tk m nx o ys c, s' = { s with heap := h, toks := tk } ∧ i + k = vs.length ∧ ys.length ≤ i ∧ h.get? I = some o ∧ h.IsListIter I l i ∧ h.get? D = some (W.listOf ys.toArray c) ∧ Fr g env.locals h m ∧ News g env.locals h nx ∧ (∀ p ∈ nx, p.1 ≠ I) ∧ (∀ p ∈ nx, p.1 ≠ D) ∧ J i ys nx) ?_ vs.length ?_
  · rintro k s' ⟨i, h, tk, m, nx, o, ys, c, rfl, hik, hyi, ho, hit, hDo, F', N', hap, hap2, hJ⟩
    have hL : h.IsList l vs.toArray := hl.at (F'.keep l)
    cases hv : vs[i]? with
    | none =>
      have hi : i = vs.length := by have := List.getElem?_eq_none_iff.mp hv; omega
      refine wpAny_pyNext_list_end hh hit hL (by simpa using hv) fun h' hx => ?_
      subst hi
      exact done ys c m nx h' tk hJ ⟨F'.ns.extBut hx hIC.symm, fun b o' e => hx b o' (fun q => by rw [q, hI0] at e; cases e) (F'.keep b o' e), F'.above⟩
        (fun p hp => by
          rcases List.mem_cons.mp hp with rfl | hp
          · exact ⟨hx _ _ hID.symm hDo, hDC, hD0⟩
          · exact ⟨hx _ _ (hap p hp) (N' p hp).1, (N' p hp).2⟩) hap2
    | some v =>
      refine wpAny_pyNext_list_item hit hL (by simpa using hv) fun h' hit' hs => ?_
      obtain ⟨o', ho', hc', hd'⟩ := id hit'
      refine owned_go ho' hc' ?_
      have F'' : Fr g env.locals h' m := ⟨F'.ns.extBut hs.extBut hIC.symm, fun b o' e => hs.extBut b o' (fun q => by rw [q, hI0] at e; cases e) (F'.keep b o' e), F'.above⟩
      have hDo' : h'.get? D = some (W.listOf ys.toArray c) := hs.extBut _ _ hID.symm hDo
      have N'' : News g env.locals h' (nx ++ [(I, o'), (D, W.listOf ys.toArray c)]) := fun p hp => by
        rcases List.mem_append.mp hp with hp | hp
        · exact ⟨hs.extBut _ _ (hap p hp) (N' p hp).1, (N' p hp).2⟩
        · rcases List.mem_cons.mp hp with rfl | hp
          · exact ⟨ho', hIC, hI0⟩
          · rw [List.mem_singleton.mp hp]
            exact ⟨hDo', hDC, hD0⟩
      have hlen : i < vs.length := by obtain ⟨q, _⟩ := List.getElem?_eq_some_iff.mp hv; exact q
      refine never_any (wpAny_mono (turn i v ys m nx h' tk [(I, o'), (D, W.listOf ys.toArray c)] hv hJ (fun q hq p hp => by
        rcases List.mem_cons.mp hq with rfl | hq
        · exact hap p hp
        · rw [List.mem_singleton.mp hq]; exact hap2 p hp) F'' N'') (fun _ s₂ h₂ => never_any (wpAny_mono h₂ (fun ok s₃ h₃ => ?_) fun _ _ q => q)) fun _ _ q => q)
      cases ok with
      | false =>
        simp only [Bool.false_eq_true, if_false] at h₃ ⊢
        obtain ⟨h3, tk3, m3, nx3, rfl, F3, N3, ho3, hap3, hJ3⟩ := h₃
        have q1 := ho3 _ (.head _)
        exact ⟨k - 1, by omega, i + 1, h3, tk3, m3, nx3, o', ys, c, rfl, by omega, by omega, q1, ⟨o', q1, hc', hd'⟩, ho3 _ (.tail _ (.head _)), F3, N3, fun p hp => hap3 _ (.head _) p hp, fun p hp => hap3 _ (.tail _ (.head _)) p hp, hJ3⟩
      | true =>
        simp only [if_true] at h₃ ⊢
        refine never_any (wpAny_mono h₃ (fun y s₄ h₄ => ?_) fun _ _ q => q)
        obtain ⟨h3, tk3, m3, nx3, rfl, F3, N3, ho3, hap3, hJ3⟩ := h₄
        have q1 : h3.get? I = some o' := ho3 _ (.head _)
        have q2 : h3.get? D = some (W.listOf ys.toArray c) := ho3 _ (.tail _ (.head _))
        have hz : ys.toArray.size ≤ sizeLine := by rw [List.size_toArray, sizeLine_eq]; omega
        refine append_at (hsz := hz) q2 fun h4 hs4 ho4 => ?_
        have q3 : h4.get? I = some o' := hs4.extBut _ _ hID q1
        refine ⟨k - 1, by omega, i + 1, h4, tk3, m3, nx3, o', ys ++ [y], c + 1, rfl, by omega, by rw [List.length_append, List.length_singleton]; omega, q3, ⟨o', q3, hc', hd'⟩, ?_, F3.change hs4 hDC hD0, fun p hp => ⟨hs4.extBut _ _ (hap3 _ (.tail _ (.head _)) p hp) (N3 p hp).1, (N3 p hp).2⟩, fun p hp => hap3 _ (.head _) p hp, fun p hp => hap3 _ (.tail _ (.head _)) p hp, hJ3⟩
        rw [ho4, show (ys ++ [y]).toArray = ys.toArray.push y from (List.push_toArray ys y).symm]
  · obtain ⟨oI, hoI, _⟩ := id hI
    exact ⟨0, s.heap, s.toks, m₀, nx₀, oI, [], 0, rfl, Nat.zero_add _, Nat.le_refl _, hoI, hI, hD, F, N, hIn, hDn, hj⟩

/-- what a comprehension's list is to bring -/
structure CompJ (prog : Program) (w : World) (A : Around) (env : Env) (elt target : Expr) (ifs : List Expr) (scope : Scope) (cl : List (Str × Addr)) (l : Addr) (vs : List Value) (J : Nat → List Value → List (Addr × Obj) → Prop) (s : Shared) : Prop where
  list : s.heap.IsList l vs.toArray
  short : vs.length ≤ 1000000
  start : J 0 [] []
  turn : ∀ C i v ys m₁ nx h tk own, vs[i]? = some v → J i ys nx → (∀ q ∈ own, ∀ p ∈ nx, p.1 ≠ q.1) → Fr s.heap C h m₁ → News s.heap C h (nx ++ own) →
      wpAny (model prog w) A (assign target (compEnvC scope cl C env) v) (fun _ s₂ => wpAny (model prog w) A (testsOf (compEnvC scope cl C env) ifs) (fun ok s₃ =>
        if ok = true then wpAny (model prog w) A (eval elt (compEnvC scope cl C env)) (fun y s₄ => EltEnd s.heap C (J (i + 1) (ys ++ [y])) own s s₄) Never s₃ else EltEnd s.heap C (J (i + 1) ys) own s s₃) Never s₂) Never { s with heap := h, toks := tk }

theorem comp_block {cl : List (Str × Addr)} {l : Addr} {vs : List Value} {J : Nat → List Value → List (Addr × Obj) → Prop} {RR : Value → Addr → Result → Shared → Prop} (hh : A.handled = none) (hcell : ∀ y ∈ scope.names, y.2 ≠ .cell) (hkind : scope.kind = .function)
    (hc : CompJ prog w A env elt target ifs scope cl l vs J s) (hRR : ∀ D C ys k nx m h' tk, J vs.length ys nx → C ≠ D → s.heap.get? C = none → h'.Ns C m → Grows s.heap h' → (∀ p ∈ (D, W.listOf ys.toArray k) :: nx, h'.get? p.1 = some p.2 ∧ s.heap.get? p.1 = none ∧ p.1 ≠ C) → (∀ p ∈ nx, p.1 ≠ D) →
      RR (.ref D) C (.ok .next) { s with heap := h', toks := tk }) :
    wpAny (model prog w) A (pyIter (.ref l)) (fun it s₂ => wpAny (model prog w) A (newList []) (fun acc s₃ => wpAny (model prog w) A (newFunctionEnv scope env.globals cl [] env.qual none .none (some env)) (fun cenv s₄ =>
      codeAny (model prog w) A (.compStart (.ListComp elt [⟨target, iter, ifs, 0⟩] scope pos) 0 it acc { cenv with scope := relabel scope env }) (RR acc cenv.locals) s₄) E s₃) E s₂) E s := by
  obtain ⟨hl, hvs, hj, turn⟩ := hc
  have hlt : l < s.heap.objs.size := by obtain ⟨_, e, _⟩ := hl; exact Heap.lt_size e
  refine wpAny_pyIter_list hl ?_
  have hz1 : (s.heap.push { cls := .type "list_iterator", data := .fields #[.ref l, .int 0 0] }).objs.size = s.heap.objs.size + 1 := Heap.size_push _ _
  have hI1 : (s.heap.push { cls := .type "list_iterator", data := .fields #[.ref l, .int 0 0] }).IsListIter s.heap.objs.size l 0 := ⟨_, Heap.get?_push_size _ rfl, rfl, rfl⟩
  have keep1 : Grows s.heap (s.heap.push { cls := .type "list_iterator", data := .fields #[.ref l, .int 0 0] }) := Grows.push _ _
  generalize s.heap.push { cls := .type "list_iterator", data := .fields #[.ref l, .int 0 0] } = H1 at hz1 hI1 keep1 ⊢
  refine wpAny_newObj_type (wpAny_newFunctionEnv hcell (by intro y hy; simp at hy) (fun h₁ hns₁ hsb₁ => ?_) hkind)
  dsimp only at hns₁ hsb₁ ⊢
  have hz2 : (H1.push { cls := .type "list", dict := none, data := .seq ([] : List Value).toArray }).objs.size = H1.objs.size + 1 := Heap.size_push _ _
  have hD1 : (H1.push { cls := .type "list", dict := none, data := .seq ([] : List Value).toArray }).get? H1.objs.size = some (W.listOf #[] 0) := Heap.get?_push_size _ rfl
  have keep2 : Grows H1 (H1.push { cls := .type "list", dict := none, data := .seq ([] : List Value).toArray }) := Grows.push _ _
  generalize H1.push { cls := .type "list", dict := none, data := .seq ([] : List Value).toArray } = H2 at hz2 hD1 keep2 hns₁ hsb₁ ⊢
  have keep3 : Grows H2 h₁ := fun b o e => hsb₁.extBut b o (Nat.ne_of_lt (Heap.lt_size e)) (Heap.get?_push_of_some _ e)
  have fresh : ∀ a, s.heap.objs.size ≤ a → s.heap.get? a = none := fun a ha => Heap.get?_none_of_le ha
  have hCD : H2.objs.size ≠ H1.objs.size := by omega
  have hC0 : s.heap.get? H2.objs.size = none := fresh _ (by omega)
  have hD0 : s.heap.get? H1.objs.size = none := fresh _ (by omega)
  have G1 : Grows s.heap h₁ := keep1.trans (keep2.trans keep3)
  have F1 : Fr s.heap H2.objs.size h₁ (fun x => List.lookup x ([] : List (Str × Value)).reverse) := ⟨hns₁, G1, by omega⟩
  have I3 : h₁.IsListIter s.heap.objs.size l 0 := hI1.at fun o e => keep3 _ _ (keep2 _ _ e)
  have loop : ∀ s₃ : Shared, s₃ = { s with heap := h₁, toks := s.toks + ([] : List (Str × Value)).length } →
      codeAny (model prog w) A (.compLoop (.ListComp elt [⟨target, iter, ifs, 0⟩] scope pos) 0 (.ref s.heap.objs.size) (.ref H1.objs.size) (compEnvC scope cl H2.objs.size env))
        (RR (.ref H1.objs.size) H2.objs.size) s₃ := by
    rintro s₃ rfl
    refine comp_turns (env := compEnvC scope cl H2.objs.size env) (g := s.heap) (nx₀ := []) J hh F1 (List.forall_mem_nil _) hj hl hvs I3 (show s.heap.objs.size ≠ H2.objs.size by omega) (fresh _ (Nat.le_refl _)) (List.forall_mem_nil _) (keep3 _ _ hD1) (show H1.objs.size ≠ H2.objs.size by omega) hD0 (List.forall_mem_nil _) (show s.heap.objs.size ≠ H1.objs.size by omega) (fun i v ys m₁ nx h tk own hv hJ hs F N => ?_) ?_
    · exact wpAny_mono (turn H2.objs.size i v ys m₁ nx h tk own hv hJ hs F N) (fun _ _ q => q) fun _ _ q => q
    · intro ys k m₁ nx h tk hJ F N hap
      exact hRR H1.objs.size H2.objs.size ys k nx m₁ h tk hJ hCD hC0 F.ns F.keep (fun p hp => ⟨(N p hp).1, (N p hp).2.2, (N p hp).2.1⟩) hap
  exact codeAny_compStart_list (loop _ rfl) (wpAny_pyIter_listiter I3 (loop _ rfl))

theorem assign_comp {cl : List (Str × Addr)} {y : Str} {py spos : Pos} {Q : Flow → Shared → Prop} (hh : A.handled = none) (hclos : closureFor scope env = pure cl) (hcell : ∀ y ∈ scope.names, y.2 ≠ .cell) (hkind : scope.kind = .function)
    (hnames : ∀ y ∈ scope.names, y.2 = .local → scope.names.lookup y.1 = some .local)
    (hsw : swapsWith (.ListComp elt [⟨target, iter, ifs, 0⟩] scope pos) (some (.Name y py)) spos.line env = pure true)
    (h : wpAny (model prog w) A (eval iter env) (fun xv s₁ => Stop (∃ l vs J m, xv = .ref l ∧ s₁.heap.Ns env.locals m ∧ CompJ prog w A env elt target ifs scope cl l vs J s₁ ∧
      ∀ D ys k nx h' tk, J vs.length ys nx → h'.Ns env.locals (fun z => if z = y then some (.ref D) else m z) → (∀ b o, b ≠ env.locals → s₁.heap.get? b = some o → h'.get? b = some o) → (∀ p ∈ (D, W.listOf ys.toArray k) :: nx, h'.get? p.1 = some p.2 ∧ s₁.heap.get? p.1 = none) → (∀ p ∈ nx, p.1 ≠ D) →
        Q .next { s₁ with heap := h', toks := tk })) E s)
    (hy : env.kindOf y = some .local) (hp : (env.scope.kind == .class || (env.scope.kind == .module && env.locals != env.globals)) = false)
    (hs : ∀ x, foldedSetIterable iter env x = pure x := by intro _; rfl) :
    wpAny (model prog w) A (exec (.Assign [.Name y py] (.ListComp elt [⟨target, iter, ifs, 0⟩] scope pos) spos) env) Q E s := by
  rw [exec_Assign_Name_used _ _ _ _ hsw]
  refine wpAny_bind (wpAny_standAt (wpAny_bind ?_))
  show wpAny _ A (do let _ ← comprehension (.ListComp elt [⟨target, iter, ifs, 0⟩] scope pos) scope env _ (newList []) false (eval iter env) (some (assign (.Name y py) env))) _ _ s
  refine wpAny_bind (wpAny_mono (wpAny_comprehension_free (use := some (assign (.Name y py) env)) (Q := fun _ s' => Q .next s') rfl hs hclos hkind hnames
    (wpAny_mono h (fun xv s₁ h₁ => ?_) fun _ _ e => e)) (fun _ s' hq => wpAny_pure (wpAny_pure hq)) fun _ _ e => e)
  obtain ⟨l, vs, J, m, rfl, hn, hc, fin⟩ := h₁
  refine comp_block (RR := fun acc C => compPost (model prog w) A E (some (assign (.Name y py) env)) (fun _ s' => Q .next s') acc C) hh hcell hkind hc ?_
  intro D C ys k nx mC h' tk hJ hCD hC hns hg hN hap
  have hold : ∃ o, s₁.heap.get? env.locals = some o := by obtain ⟨o, _, _, ho, _⟩ := hn; exact ⟨o, ho⟩
  obtain ⟨oL, hoL⟩ := hold
  have hLC : env.locals ≠ C := by rintro e; rw [e, hC] at hoL; cases hoL
  show wpAny _ A (assign (.Name y py) env (.ref D)) _ _ _
  refine wpAny_assign_Name (wpAny_storeName_local hy (hn.at' fun o e => hg _ o e) (fun h₂ hn₂ hs₂ => ?_) hp)
  refine ⟨mC, hns.at' fun o e => hs₂.extBut _ _ hLC.symm e, fun h₃ hs₃ => ?_⟩
  refine fin D ys k nx h₃ _ hJ (hn₂.at' fun o e => hs₃.extBut _ _ hLC e) (fun b o hb e => hs₃.extBut b o (fun q => by rw [q, hC] at e; cases e) (hs₂.extBut b o hb (hg b o e))) (fun p hp => ?_) hap
  have hpL : p.1 ≠ env.locals := fun q => by have := (hN p hp).2.1; rw [q, hoL] at this; cases this
  exact ⟨hs₃.extBut _ _ (hN p hp).2.2 (hs₂.extBut _ _ hpL (hN p hp).1), (hN p hp).2.1⟩

section
variable {h₀ : Heap} {L : Addr} {m : Str → Option Value} {news : List (Addr × Obj)} {cl : List (Str × Addr)}
theorem assign_compK {y : Str} {py spos : Pos} {Q : Flow → Shared → Prop} (hh : A.handled = none) (hclos : closureFor scope env = pure cl) (hcell : ∀ y ∈ scope.names, y.2 ≠ .cell) (hkind : scope.kind = .function)
    (hnames : ∀ y ∈ scope.names, y.2 = .local → scope.names.lookup y.1 = some .local)
    (hsw : swapsWith (.ListComp elt [⟨target, iter, ifs, 0⟩] scope pos) (some (.Name y py)) spos.line env = pure true)
    (h : wpAny (model prog w) A (eval iter env) (fun xv s₁ => Stop (∃ l vs J m news, xv = .ref l ∧ Fr h₀ env.locals s₁.heap m ∧ News h₀ env.locals s₁.heap news ∧ CompJ prog w A env elt target ifs scope cl l vs J s₁ ∧
      ∀ D ys k nx h' tk, J vs.length ys nx → Fr h₀ env.locals h' (fun z => if z = y then some (.ref D) else m z) → News h₀ env.locals h' ((D, W.listOf ys.toArray k) :: (nx ++ news)) → (∀ p ∈ nx, p.1 ≠ D) → (∀ p ∈ news, ∀ q ∈ (D, W.listOf ys.toArray k) :: nx, p.1 ≠ q.1) →
        Q .next { s₁ with heap := h', toks := tk })) E s)
    (hy : env.kindOf y = some .local) (hp : (env.scope.kind == .class || (env.scope.kind == .module && env.locals != env.globals)) = false)
    (hs : ∀ x, foldedSetIterable iter env x = pure x := by intro _; rfl) :
    wpAny (model prog w) A (exec (.Assign [.Name y py] (.ListComp elt [⟨target, iter, ifs, 0⟩] scope pos) spos) env) Q E s := by
  refine assign_comp hh hclos hcell hkind hnames hsw (wpAny_mono h (fun xv s₁ h₁ => ?_) fun _ _ e => e) hy hp hs
  obtain ⟨l, vs, J, m, news, rfl, F, N, hc, fin⟩ := h₁
  refine ⟨l, vs, J, m, rfl, F.ns, hc, ?_⟩
  intro D ys k nx h' tk hJ hns hg hN hap
  obtain ⟨oL, _, _, hoL, _⟩ := id F.ns
  have F' : Fr h₀ env.locals h' (fun z => if z = y then some (.ref D) else m z) := ⟨hns, fun b o e => hg b o (fun q => Nat.lt_irrefl _ (Nat.lt_of_lt_of_le (Heap.lt_size (q ▸ e)) F.above)) (F.keep b o e), F.above⟩
  refine fin D ys k nx h' tk hJ F' (fun p hp => ?_) hap (fun p hp q hq e => ?_)
  · have key : ∀ p ∈ (D, W.listOf ys.toArray k) :: nx, h'.get? p.1 = some p.2 ∧ p.1 ≠ env.locals ∧ h₀.get? p.1 = none := fun p hp => by
      have z := hN p hp
      have z2 := z.2
      refine ⟨z.1, (fun q => by rw [q, hoL] at z2; cases z2), ?_⟩
      cases e : h₀.get? p.1 with
      | none => rfl
      | some o => rw [F.keep _ _ e] at z2; cases z2
    rcases List.mem_cons.mp hp with rfl | hp
    · exact key _ (.head _)
    · rcases List.mem_append.mp hp with hp | hp
      · exact key _ (.tail _ hp)
      · exact ⟨hg _ _ (N p hp).2.1 (N p hp).1, (N p hp).2⟩
  · have z := (hN q hq).2
    rw [← e, (N p hp).1] at z
    cases z
end
end
end Mine

set_option Elab.async false
set_option maxRecDepth 100000
set_option maxHeartbeats 8000000
set_option pp.maxSteps 6000
set_option pp.deepTerms false
namespace Mine
open PySem PySem.Calls PyProof.Rows PySem.W PySem.Builtin.Re
def sfxL : PV → List Nat
  | .non => []
  | .xy => [61, 120, 89]
  | v => [61, 34] ++ rawL v ++ [34]
def pairS (p : Bool × PV) : Str := ⟨(keyL p.1 ++ sfxL p.2).toArray⟩
def rowS (r : List (Bool × PV)) : Str := Txt.join (Str.ofString "; ") (r.map pairS)
def toldS (rows : List (List (Bool × PV))) : List Str := (rows.filter fun r => !r.isEmpty).map rowS
def textS (rows : List (List (Bool × PV))) : Str := Txt.join (Str.ofString ", ") (toldS rows)
def rowsD (rows : List (List (Bool × PV))) : Dat := .list (rows.map rowD)
theorem datList {g : List (Addr × Obj)} {v : Value} {ds : List Dat} (h : DatIn g v (.list ds)) : ∃ a vs n, v = .ref a ∧ (a, W.listOf vs.toArray n) ∈ g ∧ DatAll g vs ds := by
  cases h with
  | list hm hr => exact ⟨_, _, _, rfl, hm, hr⟩
theorem datPair {g : List (Addr × Obj)} {v : Value} {p : Bool × PV} (h : DatIn g v (pairD p)) : ∃ a n t y, v = .ref a ∧ (a, ({ cls := .type "tuple", data := .seq #[.str (keyS p.1) t, y] n } : Obj)) ∈ g ∧ DatIn g y (pvD p.2) := by
  unfold pairD at h
  cases h with
  | tuple hm hr =>
    cases hr with
    | cons h1 h2 =>
      cases h2 with
      | cons h3 h4 =>
        cases h4
        cases h1
        exact ⟨_, _, _, _, rfl, hm, h3⟩
theorem datPv {g : List (Addr × Obj)} {y : Value} {v : PV} (h : DatIn g y (pvD v)) : (y = .none ∧ v = .non) ∨ ∃ t, y = .str (valS v) t ∧ v ≠ .non := by
  cases v <;> (cases h; first | exact .inl ⟨rfl, rfl⟩ | exact .inr ⟨_, rfl, by decide⟩)
theorem name_in {M : Model} {A : Around} {E : Value → Shared → Prop} {s : Shared} {h₀ : Heap} {m : Str → Option Value} {env : Env} {x : Str} {pos : Pos} {v : Value} {Q : Value → Shared → Prop} (F : Fr h₀ env.locals s.heap m) (hk : env.scope.kind = .function) (hl : env.kindOf x = some .local) (hv : m x = some v) (h : Q v s)
    (hd : (x == ("__debug__" : Str)) = false := by decide) : wpAny M A (eval (.Name x pos) env) Q E s := wpAny_Name (wpAny_loadName_local hk hl F.ns hv h) hd
theorem elt_str {g : Heap} {C : Addr} {own big : List (Addr × Obj)} {s : Shared} {h' : Heap} {tk : Nat} {m' : Str → Option Value} {l2 : List (Str × Tok)} {x : Str} {t : Tok} {r : List (Bool × PV)} {j : Nat} {q : Bool × PV} (F : Fr g C h' m') (N : News g C h' big) (ho : ∀ p ∈ own, p ∈ big) (hx : x = pairS q)
    (hl2 : l2.map (·.1) = (r.take j).map pairS) (htk : r.take (j + 1) = r.take j ++ [q]) :
    EltEnd g C (fun nx => nx = [] ∧ ∃ l3 : List (Str × Tok), strValues l2 ++ [Value.str x t] = strValues l3 ∧ l3.map (·.1) = (r.take (j + 1)).map pairS) own s { s with heap := h', toks := tk } := by
  refine elt_end [] F N (List.forall_mem_nil _) ho (fun _ _ _ hp => (nomatch hp)) ⟨rfl, l2 ++ [(x, t)], by simp [strValues], ?_⟩
  rw [htk, List.map_append, List.map_append, hl2, hx]; rfl
def midS : PV → Str
  | .esc => ⟨#[92, 92, 34]⟩
  | v => valS v
def rawS (v : PV) : Str := ⟨(rawL v).toArray⟩
section
variable {prog : Program} {w : World} {A : Around} {E : Value → Shared → Prop} {s : Shared} {t u v : Tok} {x : PV} {Q : Value → Shared → Prop}
theorem rep1 (hu : @Ne Nat u 0) (hv : @Ne Nat u v ∧ @Ne Nat v 0) (hn : 1 ≤ s.toks) (hx : (x == .emp || x == .semi || x == .esc) = true) (hq : ∀ t' k, 1 ≤ k → Q (.str (midS x) t') { s with toks := k }) :
    wpAny (model prog w) A (call (.builtin "str.replace") [.str (valS x) t, .str (Str.ofString "\\") u, .str (Str.ofString "\\\\") v]) Q E s := by
  have e : Txt.replace (valS x) (Str.ofString "\\") (Str.ofString "\\\\") = midS x := by cases x <;> first | (exact absurd hx (by decide)) | decide +kernel
  refine wpAny_with_toks hn (SC.replace hu hv.2 hv.1 (by decide) (by cases x <;> decide) fun t' k => ?_)
  rw [e]
  exact fun hk => hq t' k hk
theorem rep2 (hu : @Ne Nat u 0) (hv : @Ne Nat u v ∧ @Ne Nat v 0) (hn : 1 ≤ s.toks) (hx : (x == .emp || x == .semi || x == .esc) = true) (hq : ∀ t' k, 1 ≤ k → Q (.str (rawS x) t') { s with toks := k }) :
    wpAny (model prog w) A (call (.builtin "str.replace") [.str (midS x) t, .str (Str.ofString "\"") u, .str (Str.ofString "\\\"") v]) Q E s := by
  have e : Txt.replace (midS x) (Str.ofString "\"") (Str.ofString "\\\"") = rawS x := by cases x <;> first | (exact absurd hx (by decide)) | decide +kernel
  refine wpAny_with_toks hn (SC.replace hu hv.2 hv.1 (by decide) (by cases x <;> decide) fun t' k => ?_)
  rw [e]
  exact fun hk => hq t' k hk
theorem assign_pair {env : Env} {a b : Str} {pa pb tp : Pos} {kk : Nat} {T : Addr} {x y : Value} {m : Str → Option Value} {Q : Unit → Shared → Prop} (hh : A.handled = none) (ht : s.heap.IsTuple T #[x, y])
    (ha : env.kindOf a = some .local) (hb : env.kindOf b = some .local) (hp : (env.scope.kind == .class || (env.scope.kind == .module && env.locals != env.globals)) = false) (hn : s.heap.Ns env.locals m)
    (h : ∀ (h' : Heap) (tk : Nat), 1 ≤ tk → h'.Ns env.locals (fun z => if z = b then some y else if z = a then some x else m z) → (∀ c o, c ≠ env.locals → s.heap.get? c = some o → h'.get? c = some o) → Q () { s with heap := h', toks := tk }) :
    wpAny (model prog w) A (assign (.Tuple [.Name a pa, .Name b pb] kk tp) env (.ref T)) Q E s := by
  refine wpAny_assign_Tuple hh ht rfl rfl fun h₁ he₁ => ?_
  have hL : env.locals ≠ s.heap.objs.size := Nat.ne_of_lt hn.lt
  have hn₁ : h₁.Ns env.locals m := hn.at' fun o e => he₁ _ o hL e
  have up₁ : ∀ c o, s.heap.get? c = some o → h₁.get? c = some o := fun c o e => he₁ c o (Nat.ne_of_lt (Heap.lt_size e)) e
  show wpAny _ _ (assignInOrder [assign (.Name a pa) env, assign (.Name b pb) env] [x, y]) _ _ _
  refine assignInOrder_cons ?_
  refine wpAny_assign_Name (wpAny_storeName_local ha hn₁ (fun h₂ hn₂ hs₂ => ?_) hp)
  refine assignInOrder_cons ?_
  refine wpAny_assign_Name (wpAny_storeName_local hb hn₂ (fun h₃ hn₃ hs₃ => ?_) hp)
  refine assignInOrder_nil ?_
  exact h h₃ _ (Nat.le_add_left 1 _) hn₃ fun c o hc e => hs₃.extBut c o hc (hs₂.extBut c o hc (up₁ c o e))
end
theorem join_K {prog : Program} {w : World} {A : Around} {E : Value → Shared → Prop} {s : Shared} {h₀ : Heap} {L D : Addr} {news : List (Addr × Obj)} {k : Nat} {lst : List (Str × Tok)} {x : Str} {t : Tok} {Q : Value → Shared → Prop} (N : News h₀ L s.heap news) (hm : (D, W.listOf (strValues lst).toArray k) ∈ news) (hj : JoinOk x (lst.map (·.1)) = true)
    (h : ∀ t' k', Q (.str (Txt.join x (lst.map (·.1))) t') { s with toks := k' }) : wpAny (model prog w) A (call (.builtin "str.join") [.str x t, .ref D]) Q E s :=
  SC.join (l := lst) (texts := lst.map (·.1)) ⟨_, (N _ hm).1, rfl, k, rfl⟩ rfl hj h
theorem len_frozen {prog : Program} {w : World} {A : Around} {E : Value → Shared → Prop} {s : Shared} {h₀ : Heap} {L a : Addr} {m : Str → Option Value} {vs : List Value} {n c : Nat} {Q : Value → Shared → Prop} (F : Fr h₀ L s.heap m) (hg : h₀.get? a = some (W.listOf vs.toArray n)) (hl : vs.length = c) (hc : c ≤ 1000)
    (h : Q (.int (c : Int) (s.toks + 1)) { s with toks := s.toks + 1 + 1 }) : wpAny (model prog w) A (call (.builtin "len") [.ref a]) Q E s := by
  refine call_len_list (items := vs.toArray) ⟨_, F.keep _ _ hg, rfl, n, rfl⟩ (by rw [List.size_toArray, hl]; omega) ?_
  rw [List.size_toArray, hl]
  exact h
theorem add_K {prog : Program} {w : World} {A : Around} {E : Value → Shared → Prop} {s : Shared} {h₀ : Heap} {L a b : Addr} {m : Str → Option Value} {news : List (Addr × Obj)} {vs ws : List Value} {k1 k2 : Nat} {Q : Value → Shared → Prop} (F : Fr h₀ L s.heap m) (N : News h₀ L s.heap news) (ha : (a, W.listOf vs.toArray k1) ∈ news) (hb : (b, W.listOf ws.toArray k2) ∈ news)
    (hz : vs.length + ws.length ≤ sizeLine) (h : ∀ D h', Fr h₀ L h' m → News h₀ L h' ((D, W.listOf (vs ++ ws).toArray 0) :: news) → (∀ p ∈ news, p.1 < D) → Q (.ref D) { s with heap := h' }) : wpAny (model prog w) A (binaryOp .Add (.ref a) (.ref b)) Q E s :=
  add_lists F N ⟨_, (N _ ha).1, rfl, k1, rfl⟩ ⟨_, (N _ hb).1, rfl, k2, rfl⟩ (fun h' F' N' => h _ h' F' N' fun p hp => Heap.lt_size (N p hp).1) hz
theorem foldl_le (sep n : Nat) : ∀ (l : List Nat) (a : Nat), (∀ x ∈ l, x ≤ n) → l.foldl (fun a x => a + x + sep) a ≤ a + l.length * (n + sep)
  | [], a, _ => by simp
  | x :: l, a, h => by
    have h1 := foldl_le sep n l (a + x + sep) fun y hy => h y (.tail _ hy)
    have h2 := h x (.head _)
    rw [List.foldl_cons, List.length_cons, Nat.add_mul]
    omega
theorem joinOk_small {sep : Str} {l : List Str} {n c : Nat} (h : ∀ x ∈ l, x.length ≤ n) (hl : l.length ≤ c) (hb : c * (n + sep.length) ≤ 1000000) : JoinOk sep l = true := by
  unfold JoinOk
  rw [Bool.not_eq_true']
  unfold Builtin.Str.tooLong
  refine decide_eq_false ?_
  have e : l.toArray.foldl (fun a (x : Str) => a + x.length + sep.length) 0 = (l.map (·.length)).foldl (fun a x => a + x + sep.length) 0 := by
    rw [List.foldl_toArray, List.foldl_map]
  rw [e, sizeLine_eq]
  have h1 := foldl_le sep.length n (l.map (·.length)) 0 (fun x hx => by obtain ⟨y, hy, rfl⟩ := List.mem_map.mp hx; exact h y hy)
  rw [List.length_map] at h1
  have h2 : l.length * (n + sep.length) ≤ c * (n + sep.length) := Nat.mul_le_mul_right _ hl
  omega
theorem pairS_len (p : Bool × PV) : (pairS p).length ≤ 20 := by
  obtain ⟨b, v⟩ := p
  cases b <;> cases v <;> decide
theorem wordsLt1 : True := by
  k_with_none
  k_with "callWith builtin:list.append cons nil" => k_dflt (refine callWith_method1 ?_)
  k_with "eval Call Name cons nil" => k_dflt (refine Call_ ?_)
  k_with "eval Call Attribute cons nil" => k_dflt (refine MethodCall_ ?_)
  k_with "call builtin:list.append cons nil" => (k_dflt (refine' append_K ?k1 ?k2 ?k3 ?_ ?z; (case k1 => k_asm); (case k2 => k_asm); (case k3 => k_upd); (case z => assumption); k_whole); intro h'ₖ F'ₖ N'ₖ; (try dsimp only))
  k_with "exec For Name Call cons nil" => k_dflt (refine wpAny_For ?_ ?_)
  k_with "exec For Name Name cons nil" => k_dflt (refine wpAny_For ?_ ?_)
  k_with "exec For Tuple Name cons nil" => k_dflt (refine wpAny_For ?_ ?_)
  trivial
theorem wordsLt2 : True := by
  k_with "exec Assign cons ListComp" => (refine Stop.mk ?_)
  k_with "eval ListComp" => (refine Stop.mk ?_)
  k_with "eval Name" => ((with_reducible show wpAny _ _ (eval (Expr.Name _ _) (compEnvC _ _ _ _)) _ _ _); (rename Fr _ _ _ _ => F'ₖ); k_dflt (refine name_in F'ₖ rfl rfl (by with_unfolding_all rfl) ?_))
  k_with "call builtin:str.replace cons nil" => (k_dflt (first | (refine rep1 ?u ?v ?n ?hv ?_; (case n => ((try dsimp only); omega)); (case u => ((try dsimp only); omega)); (case v => ((try dsimp only); omega)); (case hv => decide)) | (refine rep2 ?u ?v ?n ?hv ?_; (case n => ((try dsimp only); omega)); (case u => ((try dsimp only); omega)); (case v => ((try dsimp only); omega)); (case hv => decide))); intro t'ₖ k'ₖ hk'ₖ; (try dsimp only))
  k_with "callWith builtin:str.replace cons cons nil" => k_dflt (refine callWith_method1 ?_)
  k_with "callWith builtin:str.replace cons nil" => k_dflt (refine callWith_method1 ?_)
  k_with "callWith builtin:str.join cons nil" => k_dflt (refine callWith_method1 ?_)
  k_with "call builtin:str.join cons nil" => ((rename News _ _ _ _ => N'ₖ); k_dflt (refine join_K N'ₖ (List.Mem.head _) (by assumption) ?_); intro t'ₖ k'ₖ; (try dsimp only))
  k_with "callWith builtin:len cons nil" => k_dflt (refine PyProof.Rows.callWith_builtin1 ?_)
  k_with "call builtin:len cons nil" => ((rename Fr _ _ _ _ => F'ₖ); k_dflt (refine len_frozen F'ₖ (by assumption) (by assumption) (by assumption) ?_))
  k_with "subscriptTail List cons Slice ref ref" => ((with_reducible show wpAny _ _ (subscriptTail _ (PySem.Expr.Slice _ _ none _) (Value.ref _) (Value.ref _)) _ _ _); k_dflt (refine kba_turn (value' := PySem.Expr.Name (PySem.Str.ofString "_") ⟨0, 0, 0, 0⟩) (fun _ => rfl) ?_; refine' kmk_slice_lit ?F ?N ?l ?p ?q ?e ?_ ?s ?t ?z; (case F => k_asm); (case N => k_asm); (case l => kmk_list); (case p => kmk_part); (case q => kmk_part); (case e => kl_lit); (case s => with_unfolding_all rfl); (case t => kmk_pure); (case z => kmk_size)); intro D'ₖ h'ₖ F'ₖ N'ₖ l1ₖ; (try k_lt l1ₖ))
  k_with "binaryOp Add ref ref" => ((rename Fr _ _ _ _ => F'ₖ); (rename News _ _ _ _ => N'ₖ); k_dflt (refine' add_K F'ₖ N'ₖ ?a ?b ?z ?_; (case a => k_mem); (case b => k_mem); (case z => assumption)); intro D'ₖ h'ₖ F'ₖ N'ₖ l1ₖ; (try k_lt l1ₖ))
  trivial

section
variable {w : World} {p : Program} {loose : List Str} {mean : ExcName → Option Value} {mg mb : Str → Option Value} {dp un : Nat} {fr : Option (List Env)} {gd : Option (List Code)} {s : Shared} {Q E : Value → Shared → Prop}

def TextJ (rows : List (List (Bool × PV))) (i : Nat) (m : Str → Option Value) (nx : List (Addr × Obj)) : Prop :=
  ∃ (a : Addr) (lst : List (Str × Tok)) (k : Nat), nx = [(a, W.listOf (strValues lst).toArray k)] ∧ lst.map (·.1) = toldS (rows.take i) ∧ m (Str.ofString "told") = some (.ref a)

theorem rowS_len (r : List (Bool × PV)) (h : r.length ≤ 3) : (rowS r).length ≤ 100 := by
  have a := StrLaws.join_length_le (Str.ofString "; ") (r.map pairS)
  rw [← eq_of_beq (join_closes (sep := Str.ofString "; ") (sep' := Str.ofString "; ") (ys := r.map pairS) rfl)] at a
  have e : (rowS r).length ≤ ((r.map pairS).map (·.length)).sum + (r.map pairS).length * (Str.ofString "; ").length := a
  have b : ((r.map pairS).map (·.length)).sum ≤ r.length * 20 := by
    clear a e h
    induction r with
    | nil => exact Nat.le_refl _
    | cons p r ih =>
      have := pairS_len p
      simp only [List.map_cons, List.sum_cons, List.length_cons]
      omega
  rw [List.length_map] at e
  have c : (Str.ofString "; ").length = 2 := by decide
  rw [c] at e
  omega
theorem toldS_snoc (rows : List (List (Bool × PV))) (r : List (Bool × PV)) : toldS (rows ++ [r]) = toldS rows ++ (if r.isEmpty then [] else [rowS r]) := by
  unfold toldS
  rw [List.filter_append, List.map_append]
  cases r <;> rfl
theorem text_turn {rows : List (List (Bool × PV))} {r : List (Bool × PV)} {i : Nat} {h₀ : Heap} {L D : Addr} {zs : List Value} {lst zl : List (Str × Tok)} {own big : List (Addr × Obj)} {s : Shared} {h' : Heap} {tk : Nat} {m' : Str → Option Value} (F : Fr h₀ L h' m') (N : News h₀ L h' ((D, W.listOf (strValues lst ++ zs).toArray 0) :: big))
    (ho : ∀ p ∈ own, p ∈ big) (lt' : AllLt D big) (hl : lst.map (·.1) = toldS (rows.take i)) (htk : rows.take (i + 1) = rows.take i ++ [r]) (hz : zs = strValues zl) (hz2 : zl.map (·.1) = if r.isEmpty then [] else [rowS r]) (hm : m' (Str.ofString "told") = some (.ref D)) :
    TurnEnd h₀ L (TextJ rows (i + 1)) own s .next { s with heap := h', toks := tk } := by
  have lt := allLt_lt lt'
  refine turn_end [(D, W.listOf (strValues lst ++ zs).toArray 0)] F N (fun p hp => by rw [List.mem_singleton.mp hp]; exact .head _) (fun p hp => .tail _ (ho p hp)) (fun q hq p hp => by rw [List.mem_singleton.mp hp]; exact Nat.ne_of_gt (lt q (ho q hq))) ?_
  refine ⟨D, lst ++ zl, 0, ?_, ?_, hm⟩
  · rw [hz]; simp [strValues]
  · rw [List.map_append, hl, hz2, htk, toldS_snoc]
theorem text_c {a : Addr} {g : List (Addr × Obj)} {rows : List (List (Bool × PV))} (X : (hd.heap_39 w.params).In s.heap) (T : Top p loose mean mg mb s.heap) (hd : dp + 1 < recursionLimit) (hu : un + 40 < cLine)
    (G : ∀ p ∈ g, s.heap.get? p.1 = some p.2) (D : DatIn g (.ref a) (rowsD rows)) (hn : rows.length ≤ 16) (hn3 : ∀ r ∈ rows, r.length ≤ 3)
    (h : ∀ h' tk' t, Grows s.heap h' → Q (.str (textS rows) t) { s with heap := h', toks := tk' }) :
    wpAny (model PySem.Challenge.rw_ik0003_01.row.prog w) (Ar dp fr gd un) (call (.ref 143) [.ref a]) Q E s := by
  refine wpAny_call ?_
  refine' enter_K (binds := [(Str.ofString "rows", .ref a)]) [] ?k0 X T.nolimit ?k6 ?k7 ?k8 ?k9 ?kB ?_ ?c2 ?c3 ?c4 ?c5
  case k6 => k_is
  case k7 => k_is
  case k0 => exact List.forall_mem_nil _
  case k8 => (show dp < recursionLimit; omega)
  case k9 => exact BindsTo.of_eq rfl
  case kB => exact locs rfl
  case c2 => exact rfl
  case c3 => exact rfl
  case c4 => exact rfl
  case c5 => decide
  intro L' h₁ F N _
  replace F : Fr s.heap L' h₁ (fun y => List.lookup y [(Str.ofString "rows", .ref a)]) := F
  replace N : News s.heap L' h₁ [] := N
  (try dsimp only)
  refine hide_Q fun Qg eQ => ?_
  k_steps
  unfold Stop
  rename Fr _ _ _ _ => F'
  rename News _ _ _ _ => N'
  obtain ⟨a', vs, n, e, hm, hD⟩ := datList D
  cases e
  refine for_loop (vs := vs) (TextJ rows) rfl F' N' ⟨_, [], _, rfl, rfl, rfl⟩ (fun i m nx hh _ F₂ _ => ⟨_, F₂.keep _ _ (G _ hm), rfl, n, rfl⟩) ?_ ?_
  · rintro i v m₁ nx hh tk own hv ⟨b', lst, k, rfl, hlst, hm1⟩ hown F₂ N₂
    clear F' N'
    rw [m_has hm1] at F₂
    obtain ⟨v', hv', hDv⟩ := hD.get (k := i) (by rw [← hD.length]; exact (List.getElem?_eq_some_iff.mp hv).1)
    rw [hv] at hv'
    cases hv'
    have hir : i < rows.length := by have := (List.getElem?_eq_some_iff.mp hv).1; rw [hD.length, List.length_map] at this; exact this
    rw [List.getElem_map] at hDv
    have hr3 := hn3 rows[i] (List.getElem_mem hir)
    have htk : rows.take (i + 1) = rows.take i ++ [rows[i]] := by rw [List.take_add_one, List.getElem?_eq_getElem hir]; rfl
    generalize rows[i] = r at hDv hr3 htk
    obtain ⟨ra, rvs, rn, e, hrm, hrD⟩ := datList hDv
    cases e
    k_steps
    unfold Stop
    refine assign_compK (h₀ := s.heap) (cl := []) rfl rfl (by decide) rfl (by decide) (by with_unfolding_all rfl) ?_ rfl rfl
    k_steps
    unfold Stop
    rename Fr _ _ _ _ => F₃
    rename News _ _ _ _ => N₃
    refine ⟨ra, rvs, fun j ys nx => nx = [] ∧ ∃ l2 : List (Str × Tok), ys = strValues l2 ∧ l2.map (·.1) = (r.take j).map pairS, _, _, rfl, F₃, N₃, ⟨⟨_, F₃.keep _ _ (G _ hrm), rfl, rn, rfl⟩, ?_, ⟨rfl, [], rfl, rfl⟩, ?_⟩, ?_⟩
    · have := hrD.length; rw [List.length_map] at this; omega
    · rintro C j pv ys m₂ nx h₄ tk₄ own₂ hpv ⟨rfl, l2, rfl, hl2⟩ hown₂ F₄ N₄
      have X₄ := X.keeps F₃.keep
      have T₄ := T.keeps F₃.keep
      obtain ⟨pv', hpv', hDp⟩ := hrD.get (k := j) (by rw [← hrD.length]; exact (List.getElem?_eq_some_iff.mp hpv).1)
      rw [hpv] at hpv'
      cases hpv'
      have hjr : j < r.length := by have := (List.getElem?_eq_some_iff.mp hpv).1; rw [hrD.length, List.length_map] at this; exact this
      rw [List.getElem_map] at hDp
      have htk2 : r.take (j + 1) = r.take j ++ [r[j]] := by rw [List.take_add_one, List.getElem?_eq_getElem hjr]; rfl
      generalize r[j] = q at hDp htk2
      obtain ⟨pa, pn, pt, py, e, hpm, hpy⟩ := datPair hDp
      cases e
      have hpo := F₃.keep _ _ (G _ hpm)
      refine assign_pair rfl ⟨_, F₄.keep _ _ hpo, rfl, pn, rfl⟩ rfl rfl rfl F₄.ns ?_
      intro h₅ tk₅ htk₅ hns₅ hk₅
      have F₅ := Fr.mk (h₀ := _) hns₅ (fun b o e => hk₅ b o (fun q => Nat.lt_irrefl _ (Nat.lt_of_lt_of_le (Heap.lt_size (q ▸ e)) F₄.above)) (F₄.keep b o e)) F₄.above
      have N₅ : News _ _ h₅ own₂ := fun p hp => ⟨hk₅ _ _ (N₄ p hp).2.1 (N₄ p hp).1, (N₄ p hp).2⟩
      clear F₃ N₃ F₄ N₄
      rcases datPv hpy with ⟨rfl, hq⟩ | ⟨vt, rfl, hq⟩
      · k_steps
        rename Fr _ _ _ _ => F₆
        rename News _ _ _ _ => N₆
        exact elt_str F₆ N₆ (fun p hp => hp) (by rw [pairS, hq]; simp [sfxL, keyS]) hl2 htk2
      · obtain ⟨qb, qv⟩ := q
        cases qv
        · exact absurd rfl hq
        all_goals (cases qb)
        all_goals (dsimp only at F₅)
        all_goals (first | rw [show keyS false = Str.ofString "a" from rfl] at F₅ | rw [show keyS true = Str.ofString "Bc" from rfl] at F₅)
        all_goals k_steps
        all_goals (rename Fr _ _ _ _ => F₆; rename News _ _ _ _ => N₆; refine elt_str F₆ N₆ (fun p hp => hp) ?_ hl2 htk2)
        all_goals decide +kernel
    · intro D ys k' nx h₇ tk₇ hJ F₇ N₇ _ hD7
      obtain ⟨rfl, l2, rfl, hl2⟩ := hJ
      rw [hrD.length, List.length_map, List.take_length] at hl2
      have hbD : @Ne Nat b' D := hD7 (b', W.listOf (strValues lst).toArray k) (.head _) (D, W.listOf (strValues l2).toArray k') (.head _)
      have hoff : OwnOff own [b', D] := by
        intro p hp c hc
        rcases List.mem_cons.mp hc with rfl | hc
        · exact fun e => hown p hp (c, W.listOf (strValues lst).toArray k) (.head _) e.symm
        · rw [List.mem_singleton.mp hc]
          exact hD7 p (List.mem_append.mpr (.inr hp)) (D, W.listOf (strValues l2).toArray k') (.head _)
      clear F₃ N₃
      replace N₇ : News s.heap L' h₇ ((D, W.listOf (strValues l2).toArray k') :: (b', W.listOf (strValues lst).toArray k) :: own) := N₇
      have hj : JoinOk (Str.ofString "; ") (l2.map (·.1)) = true := by
        rw [hl2]
        exact joinOk_small (n := 20) (c := 3) (fun x hx => by obtain ⟨y, _, rfl⟩ := List.mem_map.mp hx; exact pairS_len y) (by rw [List.length_map]; exact hr3) (by decide)
      have hra := G _ hrm
      have hrl : rvs.length = r.length := by rw [hrD.length, List.length_map]
      have c3 : ∀ c, c ≤ 3 → c ≤ 1000 := by omega
      have hll : lst.length ≤ 16 := by
        have := congrArg List.length hlst
        rw [List.length_map] at this
        rw [this]
        unfold toldS
        rw [List.length_map]
        refine Nat.le_trans (List.length_filter_le ..) ?_
        rw [List.length_take]
        omega
      have hz0 : (strValues lst).length + 0 ≤ sizeLine := by rw [sizeLine_eq]; simp only [strValues, List.length_map]; omega
      have hz1 : (strValues lst).length + 1 ≤ sizeLine := by rw [sizeLine_eq]; simp only [strValues, List.length_map]; omega
      rcases (show r.length = 0 ∨ r.length = 1 ∨ r.length = 2 ∨ r.length = 3 by omega) with hc | hc | hc | hc
      all_goals (rw [hc] at hrl; have c4 := c3 _ (show rvs.length ≤ 3 by omega); rw [hrl] at c4)
      all_goals (try dsimp only)
      all_goals k_steps
      all_goals (rename Fr _ _ _ _ => F₈; rename News _ _ _ _ => N₈; rename _ ∧ _ ∧ _ ∧ _ ∧ AllLt _ _ => lt')
      · obtain rfl : r = [] := List.length_eq_zero_iff.mp hc
        exact text_turn (zl := []) F₈ N₈ (fun p hp => .tail _ (.tail _ (.tail _ (.tail _ hp)))) lt' hlst htk rfl rfl rfl
      all_goals (have hre : r.isEmpty = false := by cases r with
        | nil => cases hc
        | cons _ _ => rfl)
      all_goals (refine text_turn (zl := [(_, _)]) F₈ N₈ (fun p hp => .tail _ (.tail _ (.tail _ (.tail _ hp)))) lt' hlst htk (by exact rfl) ?_ rfl; rw [hre]; simp only [Bool.false_eq_true, if_false, List.map_cons, List.map_nil]; rw [hl2]; rfl)
  · rintro m₁ nx hh tk ⟨b', lst, k, rfl, hlst, hm1⟩ F₂ N₂
    clear F' N'
    rw [m_has hm1] at F₂
    rw [hD.length, List.length_map, List.take_length] at hlst
    replace N₂ : News s.heap L' hh [(b', W.listOf (strValues lst).toArray k)] := N₂
    have hj : JoinOk (Str.ofString ", ") (lst.map (·.1)) = true := by
      rw [hlst]
      refine joinOk_small (n := 100) (c := 16) (fun x hx => ?_) ?_ (by decide)
      · unfold toldS at hx
        obtain ⟨r, hr, rfl⟩ := List.mem_map.mp hx
        exact rowS_len r (hn3 r (List.mem_filter.mp hr).1)
      · unfold toldS
        rw [List.length_map]
        exact Nat.le_trans (List.length_filter_le ..) hn
    k_steps
    subst eQ
    (try dsimp only)
    rw [hlst]
    rename Fr _ _ _ _ => F₉
    exact h _ _ _ F₉.keep
end
end Mine

set_option Elab.async false
set_option maxRecDepth 100000
set_option maxHeartbeats 4000000
set_option pp.maxSteps 3000
namespace Mine
open PySem PySem.Calls PyProof.Rows PySem.W PySem.Builtin.Re
open Builtin
theorem cb_type : typeOf (.builtin "list.__contains__") = pure (.type "wrapper_descriptor") := by show builtinType _ = _; rw [builtinType_eq_fast]; kernel_rfl
theorem cb_lk : typeLookup (.type "list") "__contains__" = pure (some (.builtin "list.__contains__")) := by rw [typeLookup_type, builtinLookup_eq_fast]; kernel_rfl
theorem cb_owner : (".".intercalate ("list.__contains__".cutAt '.').dropLast) = "list" := by
  have e0 : "list.__contains__".cutAt '.' = ["list", "__contains__"] := by first | rfl | decide +kernel
  rw [e0]; decide +kernel
theorem cb_sub : isSubtype (.type "list") (.type "list") = pure true := by rw [isSubtype_type]; kernel_rfl
theorem cb_set : typeLookup (.type "wrapper_descriptor") "__set__" = pure none := by rw [typeLookup_type, builtinLookup_eq_fast]; kernel_rfl
theorem cb_del : typeLookup (.type "wrapper_descriptor") "__delete__" = pure none := by rw [typeLookup_type, builtinLookup_eq_fast]; kernel_rfl
theorem slot_wd : Slot "wrapper_descriptor" "__get__" "wrapper_descriptor.__get__" :=
  .of (owner := "wrapper_descriptor") (n := "__get__") (by rw [typeLookup_type, builtinLookup_eq_fast]; kernel_rfl) (by decide +kernel) (by decide +kernel) (by decide +kernel)
    (by first | exact .inl (by decide +kernel) | exact .inr (by decide +kernel)) (by rw [isSubtype_type]; kernel_rfl)
theorem entry_wd : entryFor table "wrapper_descriptor.__get__" = some Builtin.«wrapper_descriptor.__get__» := entryFor_of_tree (by kernel_rfl)
theorem args_wd (a b c : Value) : argsOk "wrapper_descriptor.__get__" ⟨[a, b, c], []⟩ := by unfold argsOk; kernel_rfl
abbrev wrapOf (l : Addr) : Obj := { cls := .type "method-wrapper", data := .fields #[.builtin "list.__contains__", .ref l] }
section
variable {prog : Program} {w : World} {A : Around} {E : Value → Shared → Prop} {h : Heap} {g : Array GenState} {d : Drawn} {t : Nat} {os : OsState} {a : Addr} {o : Obj}
theorem cb_get {R : Result → Shared → Prop} (hx : h.get? a = some o) (hc : o.cls = .type "list") (hq : R (.ok (.ret (.ref h.objs.size))) ⟨h.push (wrapOf a), g, d, t, os⟩) :
    codeAny (model prog w) A (.call (.builtin "wrapper_descriptor.__get__") ⟨[.builtin "list.__contains__", .ref a, .type "list"], []⟩) R ⟨h, g, d, t, os⟩ := by
  have hT : (⟨h, g, d, t, os⟩ : Shared).TypeIs (.ref a) "list" := ⟨_, hx, hc⟩
  have hT5 : (⟨h, g, d, t, os⟩ : Shared).TypeIs (.builtin "list.__contains__") "wrapper_descriptor" := cb_type
  refine codeAny_call_builtin slot_wd.plain entry_wd (slot_wd.check _ _ _ _ _ _ _ _ hT5 (args_wd _ _ _) ?_)
  have f8 : isSubtype (.type "list") (.type (".".intercalate ("list.__contains__".cutAt '.').dropLast)) = pure true := by rw [cb_owner]; exact cb_sub
  unfold Builtin.«wrapper_descriptor.__get__»
  repeat (any_goals (first | assumption | wp_step))
theorem cb_ga_entry {its : Array Value} {n : Nat} {tk : Tok} {Q : Fin → Shared → Prop} (hx : h.get? a = some (W.listOf its n)) (hq : Q (.done (.ret (.ref h.objs.size))) ⟨h.push (wrapOf a), g, d, t, os⟩) :
    wpAny (model prog w) A (Builtin.«object.__getattribute__» ⟨[.ref a, .str "__contains__" tk], []⟩) Q E ⟨h, g, d, t, os⟩ := by
  have hT : (⟨h, g, d, t, os⟩ : Shared).TypeIs (.ref a) "list" := ⟨_, hx, rfl⟩
  have hT5 : (⟨h, g, d, t, os⟩ : Shared).TypeIs (.builtin "list.__contains__") "wrapper_descriptor" := cb_type
  have f4 := cb_lk
  have f5 := cb_type
  have f6 := slot_wd.lookup
  have f7 := cb_set
  have f8 := cb_del
  repeat (any_goals (first | assumption | wp_step))
  refine cb_get hx rfl ?_
  repeat (any_goals (first | assumption | wp_step))
theorem cb_call {its : Array Value} {n : Nat} {tk : Tok} {R : Result → Shared → Prop} (hx : h.get? a = some (W.listOf its n)) (hq : R (.ok (.ret (.ref h.objs.size))) ⟨h.push (wrapOf a), g, d, t, os⟩) :
    codeAny (model prog w) A (.call (.builtin "list.__getattribute__") ⟨[.ref a, .str "__contains__" tk], []⟩) R ⟨h, g, d, t, os⟩ :=
  codeAny_call_builtin F.slot_list_getattribute.plain F.entry_list_ga (F.slot_list_getattribute.check _ _ _ _ _ _ _ _ (show (⟨h, g, d, t, os⟩ : Shared).TypeIs (.ref a) "list" from ⟨_, hx, rfl⟩) (F.args_list_getattribute_2 _ _) (cb_ga_entry hx hq))
theorem cb_by {its : Array Value} {n : Nat} {tk : Tok} {fill expr : Bool} {Q : Value → Shared → Prop} (hx : h.get? a = some (W.listOf its n)) (hq : Q (.ref h.objs.size) ⟨h.push (wrapOf a), g, d, t, os⟩) :
    wpAny (model prog w) A (getAttrBy (.ref a) (.str "__contains__" tk) fill expr) Q E ⟨h, g, d, t, os⟩ := by
  have hT : (⟨h, g, d, t, os⟩ : Shared).TypeIs (.ref a) "list" := ⟨_, hx, rfl⟩
  have f2 := F.slot_list_getattribute.lookup
  have f3 := F.slot_list_getattribute.bind (.ref a)
  have hx0 : (expr && onTheHeap (Value.builtin "list.__getattribute__")) = false := by cases expr <;> rfl
  repeat (any_goals (first | assumption | wp_step))
  refine cb_call hx ?_
  repeat (any_goals (first | assumption | wp_step))
theorem cb_attr {its : Array Value} {n : Nat} {expr : Bool} {Q : Value → Shared → Prop} (hx : h.get? a = some (W.listOf its n)) (hq : Q (.ref h.objs.size) ⟨h.push (wrapOf a), g, d, t + 1, os⟩) : wpAny (model prog w) A (getAttr (.ref a) "__contains__" expr) Q E ⟨h, g, d, t, os⟩ := by
  unfold getAttr
  repeat (any_goals (first | assumption | with_reducible apply cb_by hx | wp_step))
  all_goals trace "ATTR"
end
section
variable {prog : Program} {w : World} {A : Around} {E : Value → Shared → Prop} {s : Shared} {h₀ : Heap} {L q l : Addr} {m : Str → Option Value} {news : List (Addr × Obj)}
/-- a list's bound __contains__, taken -/
theorem contains_attr {its : Array Value} {n : Nat} {expr : Bool} {Q : Value → Shared → Prop} (F : Fr h₀ L s.heap m) (N : News h₀ L s.heap news) (hx : s.heap.get? l = some (W.listOf its n))
    (h : ∀ q h', Fr h₀ L h' m → News h₀ L h' ((q, wrapOf l) :: news) → (∀ p ∈ news, p.1 < q) → Q (.ref q) { s with heap := h', toks := s.toks + 1 }) : wpAny (model prog w) A (getAttr (.ref l) "__contains__" expr) Q E s := by
  obtain ⟨hp, g, d, tk, os⟩ := s
  exact cb_attr hx (h _ _ (F.push _) (N.push F _) fun p hp => Heap.lt_size (N p hp).1)
end
end Mine

set_option Elab.async false
set_option maxRecDepth 100000
set_option maxHeartbeats 4000000
set_option pp.maxSteps 3000
namespace Mine
open PySem PySem.Calls PyProof.Rows PySem.W PySem.Builtin.Re PySem.SeqAt
theorem plain_wc : plainId "list.__contains__" = true := by first | decide +kernel | kernel_rfl
theorem check_wc (l x : Value) : checkBoundCall "list.__contains__" ⟨[l, x], []⟩ = pure () := by
  unfold checkBoundCall
  rw [signature?_of (id := "list.__contains__") (n := ['_', '_', 's', 'n', 'i', 'a', 't', 'n', 'o', 'c', '_', '_']) (o := ['t', 's', 'i', 'l']) (by kernel_rfl) F.owner_list]
  kernel_rfl
section
variable {prog : Program} {w : World} {A : Around} {E : Value → Shared → Prop} {s : Shared} {h₀ : Heap} {L q l : Addr} {m : Str → Option Value} {news : List (Addr × Obj)}
theorem wrap_call {its : Array Value} {n : Nat} {x : Value} {e : Value → Bool} {Q : Value → Shared → Prop} (ho : s.heap.get? q = some (wrapOf l)) (hl : s.heap.get? l = some (W.listOf its n)) (he : ∀ y, y ∈ its → EqAt A.in1 s y x (e y)) (h : Q (.bool (its.any e)) s) :
    wpAny (model prog w) A (call (.ref q) [x]) Q E s := by
  refine wpAny_call ?_
  obtain ⟨hh, g, dr, t, os⟩ := s
  refine codeAny_of_tree ?_
  show wpAny _ _ (callAny (.ref q) _) _ _ _
  dsimp only at ho
  refine nd_load ho ?_
  show wpAny _ _ (checkBoundCall "list.__contains__" ⟨[.ref l, x], []⟩ >>= fun _ => again (.builtin "list.__contains__" ⟨[.ref l, x], []⟩)) _ _ _
  rw [check_wc]
  refine wpAny_bind (wpAny_pure (wpAny_pure ⟨plainId_quiet plain_wc _, ?_⟩))
  refine codeAny_builtin F.entry_list_contains ?_
  rw [Around.under_plainId plain_wc _]
  exact list_containsAt l its n none #[] x e prog w A _ _ ⟨hl, he, h⟩
theorem news_of {h : Heap} {g : List (Addr × Obj)} (G : ∀ p ∈ g, h.get? p.1 = some p.2) : News (hideAll h (g.map (·.1))) h.objs.size h g :=
  fun p hp => ⟨G p hp, Nat.ne_of_lt (Heap.lt_size (G p hp)), hideAll_none _ (List.mem_map_of_mem hp)⟩
open Classical in
theorem wrap_in {g : List (Addr × Obj)} {xs : List Value} {k : Nat} {ds : List Dat} {x : Value} {d : Dat} {Q : Value → Shared → Prop} (G : ∀ p ∈ g, s.heap.get? p.1 = some p.2) (ho : s.heap.get? q = some (wrapOf l)) (ma : (l, W.listOf xs.toArray k) ∈ g) (Da : DatAll g xs ds)
    (Dx : DatIn g x d) (ha : ∀ d ∈ ds, kqdOk 8 d = true) (hd : kqdOk 8 d = true) (hu : A.units + 64 < cLine) (h : Q (.bool (decide (d ∈ ds))) s) : wpAny (model prog w) A (call (.ref q) [x]) Q E s := by
  have N := news_of G
  obtain ⟨as, ra⟩ := kqd_all N 8 Da ha
  obtain ⟨bs, rx⟩ := kqd_in N 8 Dx hd
  have l := kqd_layL ha
  have ld := kqd_lay 8 d hd
  have e : ((kqdPs ds).any fun y => PyData.eqv y (kqdP d)) = decide (d ∈ ds) := by
    by_cases hq : d ∈ ds
    · rw [decide_eq_true hq]; exact (kqd_any ds d ha hd).mpr hq
    · rw [decide_eq_false hq]; exact Bool.eq_false_iff.mpr fun z => hq ((kqd_any ds d ha hd).mp z)
  have l2 := ld.2
  have hc : A.units + 1 + min (PyData.depthAll (kqdPs ds)) (kqdP d).depth < cLine := by
    have := Nat.min_le_right (PyData.depthAll (kqdPs ds)) (kqdP d).depth
    omega
  have ra' : ReadsAll s.heap xs.toArray.toList (kqdPs ds) as := by simpa using ra
  refine wrap_call ho (G _ ma) (items_eqAt ra' rx l.1 ld.1 hc) ?_
  rw [any_by_data ra' l.1, e]
  exact h
end
end Mine

set_option Elab.async false
set_option maxRecDepth 100000
set_option maxHeartbeats 400000
set_option pp.maxSteps 3000
namespace Mine
open PySem PySem.Calls PyProof.Rows PySem.W
/-- an iterator of the text's own, as list() meets it -/
structure OwnIt (prog : Program) (w : World) (A : Around) (S I C : Addr) (Rem : List Value → Heap → Prop) (Pre End : Heap → Prop) (all : List Value) : Prop where
  next : ∀ v vs (s : Shared) (Q : Option Value → Shared → Prop) (E : Value → Shared → Prop), Rem (v :: vs) s.heap → (∀ h' tk, Rem vs h' → (∀ o, s.heap.get? S = some o → h'.get? S = some o) → Q (some v) { s with heap := h', toks := tk }) → wpAny (model prog w) A (pyNext (.ref I)) Q E s
  stop : ∀ (s : Shared) (Q : Option Value → Shared → Prop) (E : Value → Shared → Prop), Rem [] s.heap → (∀ h' tk, End h' → (∀ o, s.heap.get? S = some o → h'.get? S = some o) → Q none { s with heap := h', toks := tk }) → wpAny (model prog w) A (pyNext (.ref I)) Q E s
  iter : ∀ (s : Shared) (Q : Value → Shared → Prop) (E : Value → Shared → Prop), Pre s.heap → (∀ h' tk, Rem all h' → (∀ o, s.heap.get? S = some o → h'.get? S = some o) → Q (.ref I) { s with heap := h', toks := tk }) → wpAny (model prog w) A (pyIter (.ref I)) Q E s
  stay : ∀ vs (h h' : Heap), Rem vs h → (∀ b o, b ≠ S → h.get? b = some o → h'.get? b = some o) → Rem vs h'
  stayP : ∀ (h h' : Heap), Pre h → (∀ b o, b ≠ S → h.get? b = some o → h'.get? b = some o) → Pre h'
  typeP : ∀ h, Pre h → Looks (model prog w) h (typeOf (.ref I)) (.ref C)
  noLen : ∀ h vs, Rem vs h → Looks (model prog w) h (specialOf (.ref I) "__len__") none
  noHint : ∀ h vs, Rem vs h → Looks (model prog w) h (specialOf (.ref I) "__length_hint__") none
section
variable {prog : Program} {w : World} {A : Around} {R : Result → Shared → Prop} {E : Value → Shared → Prop} {S I C : Addr} {Rem : List Value → Heap → Prop} {Pre End : Heap → Prop} {all : List Value}
theorem own_loop (Y : OwnIt prog w A.in1 S I C Rem Pre End all) (res : Value) : ∀ (vs : List Value) (s : Shared) (acc : Array Value) (c : Nat), acc.size + vs.length ≤ 1000000 → Rem vs s.heap → s.heap.get? S = some (W.listOf acc c) →
    (∀ h' tk c', End h' → h'.get? S = some (W.listOf (acc ++ vs.toArray) c') → R (.ok (.ret res)) { s with heap := h', toks := tk }) → codeAny (model prog w) A (.builtin "list.extend.loop" ⟨[.ref S, .ref I, res], []⟩) R s
  | [], s, acc, c, hz, hr, hS, h => by
    refine codeAny_builtin F.entry_extend_loop ?_
    rw [Around.under_plainId F.plain_extend_loop _]
    show wpAny _ A.in1 (pyNext (.ref I) >>= _) _ _ s
    refine wpAny_bind (Y.stop s _ _ hr fun h' tk he hs => wpAny_pure (h h' tk c he ?_))
    simpa using hs _ hS
  | v :: vs, s, acc, c, hz, hr, hS, h => by
    refine codeAny_builtin F.entry_extend_loop ?_
    rw [Around.under_plainId F.plain_extend_loop _]
    show wpAny _ A.in1 (pyNext (.ref I) >>= _) _ _ s
    refine wpAny_bind (Y.next v vs s _ _ hr fun h' tk hr' hs => ?_)
    have hS' := hs _ hS
    show wpAny _ A.in1 (updateSeq S (·.push v) >>= _) _ _ _
    rw [List.length_cons] at hz
    refine wpAny_bind (wpAny_updateSeq hS' rfl (wpAny_pure ⟨plainId_quiet F.plain_extend_loop _, ?_⟩) (by rw [sizeLine_eq]; omega) (by show (acc.push v).size ≤ sizeLine + 1; rw [Array.size_push, sizeLine_eq]; omega))
    refine own_loop Y res vs _ (acc.push v) _ (by rw [Array.size_push]; omega) (Y.stay _ _ _ hr' fun b o hb e => (Heap.get?_update_other _ _ (Ne.symm hb)).trans e) (Heap.get?_update_self _ hS' rfl) fun h'' tk'' c'' he hS'' => h h'' tk'' c'' he ?_
    rw [hS'']
    simp
theorem own_extend (Y : OwnIt prog w A.in1 S I C Rem Pre End all) (hz : all.length ≤ 1000000) {s : Shared} {c : Nat} (hSI : S ≠ I) (hp : Pre s.heap) (hS : s.heap.get? S = some (W.listOf #[] c))
    (h : ∀ h' tk c', End h' → h'.get? S = some (W.listOf all.toArray c') → R (.ok (.ret .none)) { s with heap := h', toks := tk }) :
    wpAny (model prog w) A.in1 (Builtin.List.listExtendWith (.ref S) (.ref I) .none)
      (fun fin s' => match fin with | .done f => R (.ok f) s' | .again c' => c'.quiet = true ∧ codeAny (model prog w) A c' R s') (fun e s' => R (.error e) s') s := by
  unfold Builtin.List.listExtendWith
  refine wpAny_bind ((Y.typeP _ hp).here ?_)
  have h1 : Builtin.List.listSameRef (.ref S) (.ref I) = false := by simp [Builtin.List.listSameRef, hSI]
  have h2 : (Value.ref C == Value.type "list") = false := by first | rfl | simp
  have h3 : (Value.ref C == Value.type "tuple") = false := by first | rfl | simp
  simp only [h1, h2, h3, Bool.or_false, Bool.false_eq_true, if_false]
  refine wpAny_bind (Y.iter s _ _ hp fun h1' tk1 hr1 hs1 => ?_)
  have hS1 := hs1 _ hS
  refine wpAny_bind (wpAny_holding ?_)
  unfold Builtin.List.listLengthHint
  refine wpAny_bind ((Y.noLen _ _ hr1).here ?_)
  show wpAny _ A.in1 (specialOf (Value.ref I) (Str.ofString "__length_hint__") >>= _) _ _ _
  refine wpAny_bind ((Y.noHint _ _ hr1).here ?_)
  refine wpAny_pure ?_
  show wpAny _ A.in1 (rule "list.extend.makes-room" >>= fun _ => Builtin.List.listTouch (.ref S) >>= fun _ => again (.builtin "list.extend.loop" ⟨[.ref S, .ref I, .none], []⟩)) _ _ _
  refine wpAny_bind (wpAny_rule (wpAny_bind ?_))
  show wpAny _ A.in1 (updateSeq S (·.push .none) >>= fun _ => updateSeq S (·.pop)) _ _ _
  refine wpAny_bind (wpAny_updateSeq hS1 rfl ?_)
  have hS2 := Heap.get?_update_self (Obj.mapSeq (·.push Value.none)) hS1 rfl
  refine wpAny_updateSeq (hz := by seq_fits) hS2 rfl ?_
  have hS3 := Heap.get?_update_self (Obj.mapSeq (·.pop)) hS2 rfl
  refine wpAny_pure ⟨plainId_quiet F.plain_extend_loop _, own_loop Y .none all _ #[] _ (by simpa using hz) (Y.stay _ _ _ hr1 fun b o hb e => (Heap.get?_update_other _ _ (Ne.symm hb)).trans ((Heap.get?_update_other _ _ (Ne.symm hb)).trans e)) hS3 fun h' tk c' he hS' => h h' tk c' he ?_⟩
  rw [hS']
  simp
end
section
variable {prog : Program} {w : World} {A : Around} {E : Value → Shared → Prop} {s : Shared} {I C : Addr} {Rem : List Value → Heap → Prop} {Pre End : Heap → Prop} {all : List Value}
theorem list_own {Q : Value → Shared → Prop} (Y : OwnIt prog w A.in1.in1 s.heap.objs.size I C Rem Pre End all) (hz : all.length ≤ 1000000) (hI : I < s.heap.objs.size) (hp : Pre s.heap)
    (h : ∀ h' tk c', End h' → h'.get? s.heap.objs.size = some (W.listOf all.toArray c') → Q (.ref s.heap.objs.size) { s with heap := h', toks := tk }) : wpAny (model prog w) A (call (.type "list") [.ref I]) Q E s := by
  have hSI : s.heap.objs.size ≠ I := Nat.ne_of_gt hI
  refine callType_codes (Q₁ := fun obj s₁ => obj = .ref s.heap.objs.size ∧ s₁ = { s with heap := s.heap.push { cls := .type "list", data := .seq #[] } }) F.called_list (F.typeCall_list_1 _) F.entry_list_init
    (code_list_new _ ⟨rfl, rfl⟩) fun obj s₁ h₁ => ?_
  obtain ⟨rfl, rfl⟩ := h₁
  have hS : (s.heap.push { cls := .type "list", data := .seq #[] }).get? s.heap.objs.size = some { cls := .type "list", data := .seq #[] } := Heap.get?_push_size _ rfl
  refine ⟨⟨_, hS, rfl⟩, F.args_list_init_2 _ _, ?_⟩
  show wpAny _ _ (do let old ← Builtin.List.listItems (.ref s.heap.objs.size); Builtin.List.listUpdate (.ref s.heap.objs.size) (fun _ => #[]); letGo old.toList.reverse; Builtin.List.listExtendWith (.ref s.heap.objs.size) (.ref I) .none) _ _ _
  refine wpAny_bind ?_
  unfold Builtin.List.listItems
  refine wpAny_bind (wpAny_seqItems hS rfl (wpAny_pure ?_))
  show wpAny _ _ (updateSeq s.heap.objs.size (fun _ => #[]) >>= fun _ => letGo (#[] : Array Value).toList.reverse >>= fun _ => Builtin.List.listExtendWith (.ref s.heap.objs.size) (.ref I) .none) _ _ _
  refine wpAny_bind (wpAny_updateSeq hS rfl ?_)
  have hS₂ := Heap.get?_update_self (Obj.mapSeq (fun _ => (#[] : Array Value))) hS rfl
  refine wpAny_bind (wpAny_letGo ?_)
  refine own_extend Y hz hSI (Y.stayP _ _ hp fun b o hb e => (Heap.get?_update_other _ _ (Ne.symm hb)).trans (Heap.get?_push_of_some _ e)) hS₂ fun h' tk c' he hS' => ?_
  exact ⟨rfl, h h' tk c' he hS'⟩
end
end Mine

set_option Elab.async false
set_option maxRecDepth 100000
set_option maxHeartbeats 4000000
set_option pp.maxSteps 6000
set_option pp.deepTerms false
namespace Mine
open PySem PySem.Calls PyProof.Rows PySem.W PySem.Builtin.Re
abbrev insOf (dx q it : Addr) : Obj := { cls := .ref 120, dict := some dx, data := .plain, slots := #[some (.ref q), some (.ref it)] }
abbrev itOf (a : Addr) (i : Nat) : Obj := { cls := .type "list_iterator", data := .fields #[.ref a, .int i 0] }
theorem iter_list {prog : Program} {w : World} {A : Around} {E : Value → Shared → Prop} {s : Shared} {h₀ : Heap} {L a : Addr} {m : Str → Option Value} {news : List (Addr × Obj)} {vs : List Value} {n : Nat} {Q : Value → Shared → Prop} (F : Fr h₀ L s.heap m) (N : News h₀ L s.heap news) (ha : s.heap.get? a = some (W.listOf vs.toArray n))
    (h : ∀ it h', Fr h₀ L h' m → News h₀ L h' ((it, itOf a 0) :: news) → (∀ p ∈ news, p.1 < it) → Q (.ref it) { s with heap := h' }) : wpAny (model prog w) A (call (.builtin "iter") [.ref a]) Q E s := by
  refine call_function_entry (by decide +kernel) (by decide +kernel) kdk_entry_iter (kdk_args_iter _) ?_
  unfold Builtin.«iter»
  refine wpAny_bind (m := someArgs "iter" 1 2 _) (wpAny_of_eq (a := [Value.ref a]) (by first | rfl | kernel_rfl!) ?_)
  show wpAny _ _ (pyIter (.ref a) >>= _) _ _ _
  refine wpAny_bind (wpAny_pyIter_list (items := vs.toArray) ⟨_, ha, rfl, n, rfl⟩ ?_)
  exact wpAny_pure ⟨_, rfl, h _ _ (F.push _) (N.push F _) fun p hp => Heap.lt_size (N p hp).1⟩
theorem wordsFf1 : True := by
  k_with_none
  k_with "callWith builtin:list.append cons nil" => k_dflt (refine callWith_method1 ?_)
  k_with "eval Call Name cons nil" => k_dflt (refine Call_ ?_)
  k_with "eval Call Attribute cons nil" => k_dflt (refine MethodCall_ ?_)
  k_with "call builtin:list.append cons nil" => (k_dflt (refine' append_K ?k1 ?k2 ?k3 ?_ ?z; (case k1 => k_asm); (case k2 => k_asm); (case k3 => k_upd); (case z => assumption); k_whole); intro h'ₖ F'ₖ N'ₖ; (try dsimp only))
  k_with "exec For Name Call cons nil" => k_dflt (refine wpAny_For ?_ ?_)
  k_with "exec For Name Name cons nil" => k_dflt (refine wpAny_For ?_ ?_)
  k_with "exec For Tuple Name cons nil" => k_dflt (refine wpAny_For ?_ ?_)
  trivial
theorem wordsFf2 : True := by
  k_with "exec Assign cons ListComp" => (refine Stop.mk ?_)
  k_with "eval ListComp" => (refine Stop.mk ?_)
  k_with "eval Name" => ((with_reducible show wpAny _ _ (eval (Expr.Name _ _) (compEnvC _ _ _ _)) _ _ _); (rename Fr _ _ _ _ => F'ₖ); k_dflt (refine name_in F'ₖ rfl rfl (by with_unfolding_all rfl) ?_))
  k_with "call builtin:str.replace cons nil" => (k_dflt (first | (refine rep1 ?u ?v ?n ?hv ?_; (case n => ((try dsimp only); omega)); (case u => ((try dsimp only); omega)); (case v => ((try dsimp only); omega)); (case hv => decide)) | (refine rep2 ?u ?v ?n ?hv ?_; (case n => ((try dsimp only); omega)); (case u => ((try dsimp only); omega)); (case v => ((try dsimp only); omega)); (case hv => decide))); intro t'ₖ k'ₖ hk'ₖ; (try dsimp only))
  k_with "callWith builtin:str.replace cons cons nil" => k_dflt (refine callWith_method1 ?_)
  k_with "callWith builtin:str.replace cons nil" => k_dflt (refine callWith_method1 ?_)
  k_with "callWith builtin:str.join cons nil" => k_dflt (refine callWith_method1 ?_)
  k_with "call builtin:str.join cons nil" => ((rename News _ _ _ _ => N'ₖ); k_dflt (refine join_K N'ₖ (List.Mem.head _) (by assumption) ?_); intro t'ₖ k'ₖ; (try dsimp only))
  k_with "callWith builtin:len cons nil" => k_dflt (refine PyProof.Rows.callWith_builtin1 ?_)
  k_with "call builtin:len cons nil" => ((rename Fr _ _ _ _ => F'ₖ); k_dflt (refine len_frozen F'ₖ (by assumption) (by assumption) (by assumption) ?_))
  k_with "subscriptTail List cons Slice ref ref" => ((with_reducible show wpAny _ _ (subscriptTail _ (PySem.Expr.Slice _ _ none _) (Value.ref _) (Value.ref _)) _ _ _); k_dflt (refine kba_turn (value' := PySem.Expr.Name (PySem.Str.ofString "_") ⟨0, 0, 0, 0⟩) (fun _ => rfl) ?_; refine' kmk_slice_lit ?F ?N ?l ?p ?q ?e ?_ ?s ?t ?z; (case F => k_asm); (case N => k_asm); (case l => kmk_list); (case p => kmk_part); (case q => kmk_part); (case e => kl_lit); (case s => with_unfolding_all rfl); (case t => kmk_pure); (case z => kmk_size)); intro D'ₖ h'ₖ F'ₖ N'ₖ l1ₖ; (try k_lt l1ₖ))
  k_with "binaryOp Add ref ref" => ((rename Fr _ _ _ _ => F'ₖ); (rename News _ _ _ _ => N'ₖ); k_dflt (refine' add_K F'ₖ N'ₖ ?a ?b ?z ?_; (case a => k_mem); (case b => k_mem); (case z => assumption)); intro D'ₖ h'ₖ F'ₖ N'ₖ l1ₖ; (try k_lt l1ₖ))
  k_with "getAttr ref" => ((with_reducible show wpAny _ _ (getAttr (Value.ref _) (Str.ofString "__contains__") _) _ _ _); (rename Fr _ _ _ _ => F'ₖ); (rename News _ _ _ _ => N'ₖ); k_dflt (refine contains_attr F'ₖ N'ₖ (F'ₖ.keep _ _ (by assumption)) ?_); intro q'ₖ h'ₖ F'ₖ N'ₖ l1ₖ; (try dsimp only); (try k_lt l1ₖ))
  k_with "callWith builtin:iter cons nil" => k_dflt (refine PyProof.Rows.callWith_builtin1 ?_)
  k_with "call builtin:iter cons nil" => ((rename Fr _ _ _ _ => F'ₖ); (rename News _ _ _ _ => N'ₖ); k_dflt (refine iter_list F'ₖ N'ₖ (F'ₖ.keep _ _ (by assumption)) ?_); intro it'ₖ h'ₖ F'ₖ N'ₖ l1ₖ; (try dsimp only); (try k_lt l1ₖ))
  trivial

section
variable {w : World} {p : Program} {loose : List Str} {mean : ExcName → Option Value} {mg mb : Str → Option Value} {dp un : Nat} {fr : Option (List Env)} {gd : Option (List Code)} {s : Shared} {R : Result → Shared → Prop}

theorem init_c {A : Around} {x dx q a na : Nat} {va : List Value} (X : (hd.heap_39 w.params).In (hideAll s.heap [x, dx])) (T : Top p loose mean mg mb (hideAll s.heap [x, dx])) (hd : A.depth < recursionLimit) (hA : A.handled = none)
    (hx : s.heap.get? x = some (instObj 120 dx)) (hdx : s.heap.get? dx = some (dictOf [] 0)) (hxd : @LT.lt Nat _ dx x) 
    (hag : (hideAll s.heap [x, dx]).get? a = some (W.listOf va.toArray na)) (h : ∀ h' tk it, (∀ b o, b ≠ x → s.heap.get? b = some o → h'.get? b = some o) → h'.get? x = some (insOf dx q it) → h'.get? it = some (itOf a 0) → s.heap.get? it = none → R (.ok (.ret .none)) { s with heap := h', toks := tk }) :
    codeAny (model PySem.Challenge.rw_ik0003_01.row.prog w) A (.call (.ref 102) ⟨[.ref x, .ref q, .ref a], []⟩) R s := by
  refine' enter_K (binds := [(Str.ofString "self", .ref x), (Str.ofString "function", .ref q), (Str.ofString "iterable", .ref a)]) [(x, instObj 120 dx), (dx, dictOf [] 0)] ?k0 (fun b o e => of_hideAll _ (X b o e)) (T.nolimit.keeps fun b o e => of_hideAll _ e) ?k6 ?k7 ?k8 ?k9 ?kB ?_ ?c2 ?c3 ?c4 ?c5
  case k6 => k_is
  case k7 => k_is
  case k0 => exact List.forall_mem_cons.mpr ⟨hx, List.forall_mem_cons.mpr ⟨hdx, List.forall_mem_nil _⟩⟩
  case k8 => exact hd
  case k9 => exact BindsTo.of_eq rfl
  case kB => exact locs rfl
  case c2 => exact rfl
  case c3 => exact rfl
  case c4 => exact rfl
  case c5 => decide
  intro L' h₁ F N _
  generalize hg : hideAll s.heap [x, dx] = g₀ at *
  replace F : Fr g₀ L' h₁ (fun y => List.lookup y [(Str.ofString "iterable", .ref a), (Str.ofString "function", .ref q), (Str.ofString "self", .ref x)]) := by rw [← hg]; exact F
  replace N : News g₀ L' h₁ [(x, instObj 120 dx), (dx, dictOf [] 0)] := by rw [← hg]; exact N
  (try dsimp only)
  k_steps
  rename Fr _ _ _ _ => F'
  rename News _ _ _ _ => N'
  rename _ ∧ _ => lt'
  have z1 := N' _ (.head _)
  have z2 := N' _ (.tail _ (.head _))
  have z3 := N' _ (.tail _ (.tail _ (.head _)))
  refine h _ _ _ (fun b o hb e => ?_) z2.1 z1.1 ?_
  · by_cases hbd : b = dx
    · rw [hbd] at e ⊢
      rw [hdx] at e
      cases e
      exact z3.1
    · exact F'.keep b o (hg ▸ hideAll_get _ e (by simp [hb, hbd]))
  · cases e : s.heap.get? _ with
    | none => rfl
    | some o =>
      have z4 := z1.2.2
      rw [← hg, hideAll_get _ e (by have l1 := Nat.ne_of_gt lt'.1; have l2 := Nat.ne_of_gt lt'.2; simp [l1, l2])] at z4
      cases z4

theorem iter_c {x : Addr} (X : (hd.heap_39 w.params).In s.heap) (T : Top p loose mean mg mb s.heap) {A : Around} (hd : A.depth < recursionLimit) (h : ∀ h' tk, Grows s.heap h' → R (.ok (.ret (.ref x))) { s with heap := h', toks := tk }) :
    codeAny (model PySem.Challenge.rw_ik0003_01.row.prog w) A (.call (.ref 109) ⟨[.ref x], []⟩) R s := by
  refine' enter_K (binds := [(Str.ofString "self", .ref x)]) [] ?k0 X T.nolimit ?k6 ?k7 ?k8 ?k9 ?kB ?_ ?c2 ?c3 ?c4 ?c5
  case k6 => k_is
  case k7 => k_is
  case k0 => exact List.forall_mem_nil _
  case k8 => exact hd
  case k9 => exact BindsTo.of_eq rfl
  case kB => exact locs rfl
  case c2 => exact rfl
  case c3 => exact rfl
  case c4 => exact rfl
  case c5 => decide
  intro L' h₁ F N _
  replace F : Fr s.heap L' h₁ (fun y => List.lookup y [(Str.ofString "self", .ref x)]) := F
  replace N : News s.heap L' h₁ [] := N
  (try dsimp only)
  k_steps
  rename Fr _ _ _ _ => F'
  exact h _ _ F'.keep
end
end Mine

set_option Elab.async false
set_option maxRecDepth 100000
set_option maxHeartbeats 4000000
set_option pp.maxSteps 6000
set_option pp.deepTerms false
namespace Mine
open PySem PySem.Calls PyProof.Rows PySem.W PySem.Builtin.Re
section
variable {prog : Program} {w : World} {A : Around} {R : Result → Shared → Prop} {s : Shared} {E : Value → Shared → Prop}
/-- a lambda is entered: its frame above the heap as it stands -/
theorem enter_lam {name qual : Str} {params : Arguments} {body : Expr} {scope : Scope} {cl : List (Str × Addr)} {pm ctv : Value} {c' f : Addr} {args : Args} {binds : List (Str × Value)} (hlim : s.heap.NoLimit)
    (ho : s.heap.get? f = some (kla_obj name qual params body scope cl pm c' ctv)) (hcd : s.heap.CodeRec (.ref c') qual) (hroom : A.depth < recursionLimit)
    (hbind : bindArgs (kla_fn name qual params body scope cl pm (.ref c') ctv) args = pure binds) (hloc : ∀ y ∈ binds, scope.names.lookup y.1 = some .local)
    (h : ∀ L' h₁, Fr s.heap L' h₁ (fun y => binds.reverse.lookup y) → News s.heap L' h₁ [] →
      wpAny (model prog w) (A.deeper (envX qual scope L' f (.ref c') cl)) (eval body (envX qual scope L' f (.ref c') cl)) (fun v s' => R (.ok (.ret v)) s')
        (fun e s' => wpAny (model prog w) (A.deeper (envX qual scope L' f (.ref c') cl)) (leaving (envX qual scope L' f (.ref c') cl) e) (fun _ s'' => R (.error e) s'') (fun e' s'' => R (.error e') s'') s')
        { s with heap := h₁, toks := s.toks + binds.length })
    (hco : scope.isCoroutine = false) (hgen : scope.isGenerator = false) (hk : scope.kind = .function)
    (hcell : ∀ x ∈ scope.names, x.2 ≠ .cell) : codeAny (model prog w) A (.call (.ref f) args) R s := by
  refine kla_callFunE hroom ho rfl hco hgen rfl hcd ?_
  rw [hbind]
  refine wpAny_pure (wpAny_newFunctionEnv hcell hloc (fun h₁ hns hsb => ⟨hlim.fresh _ hsb, ?_⟩) hk)
  show codeAny _ _ (.expr body (envX qual scope s.heap.objs.size f (.ref c') cl)) _ _
  have hk₁ : Grows s.heap h₁ := fun b o e => hsb.extBut b o (Nat.ne_of_lt (Heap.lt_size e)) (Heap.get?_push_of_some _ e)
  exact kla_codeExpr (h s.heap.objs.size h₁ ⟨hns, hk₁, Nat.le_refl _⟩ (List.forall_mem_nil _))
theorem codeRec_grows {h h' : Heap} {cv : Value} {q : Str} (c : h.CodeRec cv q) (G : Grows h h') : h'.CodeRec cv q := by
  obtain ⟨c₂, oc, vs, t, e2, hoc, hd, hv⟩ := c
  exact ⟨c₂, oc, vs, t, e2, G _ _ hoc, hd, hv⟩
theorem group_K {h₀ : Heap} {L a : Addr} {m : Str → Option Value} {text : Str} {x : Mine.Hit} {t : Tok} {b e : Nat} {Q : Value → Shared → Prop} (P : MatchAt h₀ a text 1 x) (F : Fr h₀ L s.heap m) (hs : spansOf 1 x = [rawInt x.start, rawInt x.handed, rawInt b, rawInt e]) (hz : text.length ≤ 1048576)
    (h : Q (.str ⟨text.cps.extract b e⟩ s.toks) { s with toks := s.toks + 1 }) : wpAny (model prog w) A (call (.builtin "re.Match.group") [.ref a, .int 1 t]) Q E s := by
  refine group_call (P.keeps F.keep) hs ?_ h
  have hz' : text.cps.size ≤ 1048576 := hz
  rw [sizeLine_eq, Array.size_extract]
  omega
theorem truthy_cut {text : Str} {t : Tok} {b e : Nat} {Q : Bool → Shared → Prop} (hb : b < e) (he : e ≤ text.cps.size) (hz : text.length ≤ 1048576) (h : Q true { s with toks := s.toks + 1 + 1 }) : wpAny (model prog w) A (truthy (.str ⟨text.cps.extract b e⟩ t)) Q E s := by
  have hz' : text.cps.size ≤ 1048576 := hz
  have hl : (⟨text.cps.extract b e⟩ : Str).length = e - b := by show (text.cps.extract b e).size = _; rw [Array.size_extract]; omega
  refine PySem.P.truthy_str (by rw [hl]; omega) ?_
  rw [hl, show (((e - b : Nat) : Int) != 0) = true by rw [bne_iff_ne]; omega]
  exact h
theorem add_cut {text pre : Str} {t u : Tok} {b e : Nat} {Q : Value → Shared → Prop} (hp : pre.length ≤ 10) (hz : text.length ≤ 1048576) (h : ∀ t' k, Q (.str (pre ++ ⟨text.cps.extract b e⟩) t') { s with toks := k }) : wpAny (model prog w) A (binaryOp .Add (.str pre u) (.str ⟨text.cps.extract b e⟩ t)) Q E s := by
  have hz' : text.cps.size ≤ 1048576 := hz
  have hl : (⟨text.cps.extract b e⟩ : Str).length ≤ 1048576 := by show (text.cps.extract b e).size ≤ _; rw [Array.size_extract]; omega
  exact PyProof.Rows.add_str h (by rw [sizeLine_eq]; omega)
end
theorem wordsLm1 : True := by
  k_with_none
  k_with "callWith builtin:list.append cons nil" => k_dflt (refine callWith_method1 ?_)
  k_with "eval Call Name cons nil" => k_dflt (refine Call_ ?_)
  k_with "eval Call Attribute cons nil" => k_dflt (refine MethodCall_ ?_)
  k_with "call builtin:list.append cons nil" => (k_dflt (refine' append_K ?k1 ?k2 ?k3 ?_ ?z; (case k1 => k_asm); (case k2 => k_asm); (case k3 => k_upd); (case z => assumption); k_whole); intro h'ₖ F'ₖ N'ₖ; (try dsimp only))
  k_with "exec For Name Call cons nil" => k_dflt (refine wpAny_For ?_ ?_)
  k_with "exec For Name Name cons nil" => k_dflt (refine wpAny_For ?_ ?_)
  k_with "exec For Tuple Name cons nil" => k_dflt (refine wpAny_For ?_ ?_)
  trivial
theorem wordsLm2 : True := by
  k_with "exec Assign cons ListComp" => (refine Stop.mk ?_)
  k_with "eval ListComp" => (refine Stop.mk ?_)
  k_with "eval Name" => ((with_reducible show wpAny _ _ (eval (Expr.Name _ _) (compEnvC _ _ _ _)) _ _ _); (rename Fr _ _ _ _ => F'ₖ); k_dflt (refine name_in F'ₖ rfl rfl (by with_unfolding_all rfl) ?_))
  k_with "call builtin:str.replace cons nil" => (k_dflt (first | (refine rep1 ?u ?v ?n ?hv ?_; (case n => ((try dsimp only); omega)); (case u => ((try dsimp only); omega)); (case v => ((try dsimp only); omega)); (case hv => decide)) | (refine rep2 ?u ?v ?n ?hv ?_; (case n => ((try dsimp only); omega)); (case u => ((try dsimp only); omega)); (case v => ((try dsimp only); omega)); (case hv => decide))); intro t'ₖ k'ₖ hk'ₖ; (try dsimp only))
  k_with "callWith builtin:str.replace cons cons nil" => k_dflt (refine callWith_method1 ?_)
  k_with "callWith builtin:str.replace cons nil" => k_dflt (refine callWith_method1 ?_)
  k_with "callWith builtin:str.join cons nil" => k_dflt (refine callWith_method1 ?_)
  k_with "call builtin:str.join cons nil" => ((rename News _ _ _ _ => N'ₖ); k_dflt (refine join_K N'ₖ (List.Mem.head _) (by assumption) ?_); intro t'ₖ k'ₖ; (try dsimp only))
  k_with "callWith builtin:len cons nil" => k_dflt (refine PyProof.Rows.callWith_builtin1 ?_)
  k_with "call builtin:len cons nil" => ((rename Fr _ _ _ _ => F'ₖ); k_dflt (refine len_frozen F'ₖ (by assumption) (by assumption) (by assumption) ?_))
  k_with "subscriptTail List cons Slice ref ref" => ((with_reducible show wpAny _ _ (subscriptTail _ (PySem.Expr.Slice _ _ none _) (Value.ref _) (Value.ref _)) _ _ _); k_dflt (refine kba_turn (value' := PySem.Expr.Name (PySem.Str.ofString "_") ⟨0, 0, 0, 0⟩) (fun _ => rfl) ?_; refine' kmk_slice_lit ?F ?N ?l ?p ?q ?e ?_ ?s ?t ?z; (case F => k_asm); (case N => k_asm); (case l => kmk_list); (case p => kmk_part); (case q => kmk_part); (case e => kl_lit); (case s => with_unfolding_all rfl); (case t => kmk_pure); (case z => kmk_size)); intro D'ₖ h'ₖ F'ₖ N'ₖ l1ₖ; (try k_lt l1ₖ))
  k_with "binaryOp Add ref ref" => ((rename Fr _ _ _ _ => F'ₖ); (rename News _ _ _ _ => N'ₖ); k_dflt (refine' add_K F'ₖ N'ₖ ?a ?b ?z ?_; (case a => k_mem); (case b => k_mem); (case z => assumption)); intro D'ₖ h'ₖ F'ₖ N'ₖ l1ₖ; (try k_lt l1ₖ))
  k_with "getAttr ref" => ((with_reducible show wpAny _ _ (getAttr (Value.ref _) (Str.ofString "__contains__") _) _ _ _); (rename Fr _ _ _ _ => F'ₖ); (rename News _ _ _ _ => N'ₖ); k_dflt (refine contains_attr F'ₖ N'ₖ (F'ₖ.keep _ _ (by assumption)) ?_); intro q'ₖ h'ₖ F'ₖ N'ₖ l1ₖ; (try dsimp only); (try k_lt l1ₖ))
  k_with "callWith builtin:iter cons nil" => k_dflt (refine PyProof.Rows.callWith_builtin1 ?_)
  k_with "call builtin:iter cons nil" => ((rename Fr _ _ _ _ => F'ₖ); (rename News _ _ _ _ => N'ₖ); k_dflt (refine iter_list F'ₖ N'ₖ (F'ₖ.keep _ _ (by assumption)) ?_); intro it'ₖ h'ₖ F'ₖ N'ₖ l1ₖ; (try dsimp only); (try k_lt l1ₖ))
  trivial

theorem wordsLm3 : True := by
  k_with "getMethod ref" => ((with_reducible show wpAny _ _ (getMethod (Value.ref _) (Str.ofString "group") _) _ _ _); (rename Fr _ _ _ _ => F'ₖ); (rename MatchAt _ _ _ _ _ => P'ₖ); k_dflt (refine methM slot_group ty_group (P'ₖ.keeps F'ₖ.keep) ?_))
  k_with "callWith builtin:re.Match.group cons nil" => k_dflt (refine callWith_method1 ?_)
  k_with "call builtin:re.Match.group" => ((rename Fr _ _ _ _ => F'ₖ); (rename MatchAt _ _ _ _ _ => P'ₖ); k_dflt (refine group_K P'ₖ F'ₖ (by assumption) (by assumption) ?_); (try dsimp only))
  k_with "truthy str" => (k_dflt (refine truthy_cut (by assumption) (by assumption) (by assumption) ?_); (try dsimp only))
  k_with "binaryOp Add str str" => (k_dflt (refine add_cut (by exact Nat.le_of_ble_eq_true rfl) (by assumption) ?_); intro _ _; (try dsimp only))
  trivial
section
variable {w : World} {p : Program} {loose : List Str} {mean : ExcName → Option Value} {mg mb : Str → Option Value} {s : Shared} {Q E : Value → Shared → Prop}
abbrev lamScope : Scope := { kind := ScopeKind.function, names := [(Str.ofString "_m", NameKind.local)], isGenerator := false, isCoroutine := false }
abbrev lamBody1 : Expr := (Expr.Constant (Const.str (Str.ofString "")) 0 { line := 26, col := 60, endLine := 26, endCol := 62 }).BinOp Operator.Add
    (Expr.BoolOp BoolOp.Or [((Expr.Name (Str.ofString "_m") { line := 26, col := 66, endLine := 26, endCol := 68 }).Attribute (Str.ofString "group") { line := 26, col := 66, endLine := 26, endCol := 74 }).Call [Expr.Constant (Const.int 1) 0 { line := 26, col := 75, endLine := 26, endCol := 76 }] [] { line := 26, col := 66, endLine := 26, endCol := 77 }, Expr.Constant (Const.str (Str.ofString "")) 0 { line := 26, col := 81, endLine := 26, endCol := 83 }]
      { line := 26, col := 66, endLine := 26, endCol := 83 }) { line := 26, col := 60, endLine := 26, endCol := 84 }
abbrev lamBody2 : Expr := (Expr.Constant (Const.str (Str.ofString "\\")) 0 { line := 57, col := 61, endLine := 57, endCol := 65 }).BinOp Operator.Add
    (Expr.BoolOp BoolOp.Or [((Expr.Name (Str.ofString "_m") { line := 57, col := 69, endLine := 57, endCol := 71 }).Attribute (Str.ofString "group") { line := 57, col := 69, endLine := 57, endCol := 77 }).Call [Expr.Constant (Const.int 1) 0 { line := 57, col := 78, endLine := 57, endCol := 79 }] [] { line := 57, col := 69, endLine := 57, endCol := 80 }, Expr.Constant (Const.str (Str.ofString "")) 0 { line := 57, col := 84, endLine := 57, endCol := 86 }]
      { line := 57, col := 69, endLine := 57, endCol := 86 }) { line := 57, col := 61, endLine := 57, endCol := 87 }
abbrev lamPars (p1 : Pos) : Arguments := { posonlyargs := [], args := [{ arg := Str.ofString "_m", annotation := none, pos := p1 }], vararg := none, kwonlyargs := [], kw_defaults := [], kwarg := none, defaults := [] }

theorem lam_c {A : Around} {name qual : Str} {pm ctv : Value} {c' f a : Addr} {p0 : Pos} {text : Str} {x : Mine.Hit} {b e : Nat} (X : (hd.heap_39 w.params).In s.heap) (T : Top p loose mean mg mb s.heap) (hd : A.depth < recursionLimit) (hA : A.handled = none)
    (ho : s.heap.get? f = some (kla_obj name qual (lamPars p0) lamBody1 lamScope [] pm c' ctv)) (hcd : s.heap.CodeRec (.ref c') qual)
    (P : MatchAt s.heap a text 1 x) (hs : spansOf 1 x = [rawInt x.start, rawInt x.handed, rawInt b, rawInt e]) (hz : text.length ≤ 1048576) (hb : b < e) (he : e ≤ text.cps.size)
    (h : ∀ h' tk t', Grows s.heap h' → Q (.str (Str.ofString "" ++ ⟨text.cps.extract b e⟩) t') { s with heap := h', toks := tk }) : wpAny (model PySem.Challenge.rw_ik0003_01.row.prog w) A (call (.ref f) [.ref a]) Q E s := by
  refine wpAny_call ?_
  refine' enter_lam (binds := [(Str.ofString "_m", .ref a)]) T.nolimit ho hcd hd ?k9 ?kB ?_ ?c2 ?c3 ?c4 ?c5
  case k9 => exact rfl
  case kB => exact locs rfl
  case c2 => exact rfl
  case c3 => exact rfl
  case c4 => exact rfl
  case c5 => decide
  intro L' h₁ F N
  replace F : Fr s.heap L' h₁ (fun y => List.lookup y [(Str.ofString "_m", .ref a)]) := F
  (try dsimp only)
  k_steps
  rename Fr _ _ _ _ => F'
  exact h _ _ _ F'.keep
theorem lam_c2 {A : Around} {name qual : Str} {pm ctv : Value} {c' f a : Addr} {p0 : Pos} {text : Str} {x : Mine.Hit} {b e : Nat} (X : (hd.heap_39 w.params).In s.heap) (T : Top p loose mean mg mb s.heap) (hd : A.depth < recursionLimit) (hA : A.handled = none)
    (ho : s.heap.get? f = some (kla_obj name qual (lamPars p0) lamBody2 lamScope [] pm c' ctv)) (hcd : s.heap.CodeRec (.ref c') qual)
    (P : MatchAt s.heap a text 1 x) (hs : spansOf 1 x = [rawInt x.start, rawInt x.handed, rawInt b, rawInt e]) (hz : text.length ≤ 1048576) (hb : b < e) (he : e ≤ text.cps.size)
    (h : ∀ h' tk t', Grows s.heap h' → Q (.str (Str.ofString "\\" ++ ⟨text.cps.extract b e⟩) t') { s with heap := h', toks := tk }) : wpAny (model PySem.Challenge.rw_ik0003_01.row.prog w) A (call (.ref f) [.ref a]) Q E s := by
  refine wpAny_call ?_
  refine' enter_lam (binds := [(Str.ofString "_m", .ref a)]) T.nolimit ho hcd hd ?k9 ?kB ?_ ?c2 ?c3 ?c4 ?c5
  case k9 => exact rfl
  case kB => exact locs rfl
  case c2 => exact rfl
  case c3 => exact rfl
  case c4 => exact rfl
  case c5 => decide
  intro L' h₁ F N
  replace F : Fr s.heap L' h₁ (fun y => List.lookup y [(Str.ofString "_m", .ref a)]) := F
  (try dsimp only)
  k_steps
  rename Fr _ _ _ _ => F'
  exact h _ _ _ F'.keep

theorem lam_ok {A : Around} {g : Heap} {name qual : Str} {pm ctv : Value} {c' f : Addr} {p0 : Pos} (X : (hd.heap_39 w.params).In g) (T : Top p loose mean mg mb g) (hd : A.depth < recursionLimit) (hA : A.handled = none)
    (ho : g.get? f = some (kla_obj name qual (lamPars p0) lamBody1 lamScope [] pm c' ctv)) (hcd : g.CodeRec (.ref c') qual) : LamOk PySem.Challenge.rw_ik0003_01.row.prog w A g f ⟨#[]⟩ :=
  fun _ _ _ _ _ _ _ _ G P hs hz hb he h => lam_c (X.keeps G) (T.keeps G) hd hA (G _ _ ho) (codeRec_grows hcd G) P hs hz hb he h
theorem lam_ok2 {A : Around} {g : Heap} {name qual : Str} {pm ctv : Value} {c' f : Addr} {p0 : Pos} (X : (hd.heap_39 w.params).In g) (T : Top p loose mean mg mb g) (hd : A.depth < recursionLimit) (hA : A.handled = none)
    (ho : g.get? f = some (kla_obj name qual (lamPars p0) lamBody2 lamScope [] pm c' ctv)) (hcd : g.CodeRec (.ref c') qual) : LamOk PySem.Challenge.rw_ik0003_01.row.prog w A g f ⟨#[92]⟩ :=
  fun _ _ _ _ _ _ _ _ G P hs hz hb he h => lam_c2 (X.keeps G) (T.keeps G) hd hA (G _ _ ho) (codeRec_grows hcd G) P hs hz hb he h
end
end Mine

set_option Elab.async false
set_option maxRecDepth 100000
set_option maxHeartbeats 1000000
namespace Mine
open PySem PySem.Calls PyProof.Rows PySem.W PySem.Builtin.Re
/-- a written part holds a compiled pattern -/
def patIn (K : Frag) (p : Addr) (code : Array Nat) (groups : Nat) : Bool := match K.lookup p with
  | some ⟨.type cls, none, .fields vs, _⟩ => cls == "re.Pattern" && (match vs.toList with
    | [_, _, .int g 0, .none, .none, .ref c, .int z 0] => g == (groups : Int) && z == 0 && (match K.lookup c with
      | some ⟨_, _, .seq ws _, _⟩ => decide ((ws.map reRawOf).map (·.toNat) = code)
      | _ => false)
    | _ => false)
  | _ => false
theorem pat_of {K : Frag} {h : Heap} {p : Addr} {code : Array Nat} {groups : Nat} (X : K.In h) (e : patIn K p code groups = true) : PatAt h p code groups := by
  unfold patIn at e
  split at e
  · rename_i cls vs sl ho
    rw [Bool.and_eq_true] at e
    obtain ⟨e1, e2⟩ := e
    have hc := eq_of_beq e1
    subst hc
    split at e2
    · rename_i f0 f1 g c z hv
      rw [Bool.and_eq_true, Bool.and_eq_true] at e2
      obtain ⟨⟨e3, e4⟩, e5⟩ := e2
      have hg := eq_of_beq e3
      have hz := eq_of_beq e4
      subst hg hz
      split at e5
      · rename_i oc od ws n osl hoc
        refine ⟨f0, f1, c, _, ws, n, _, X _ _ ho, rfl, rfl, ?_, X _ _ hoc, rfl, of_decide_eq_true e5⟩
        show Data.fields vs = _
        rw [← Array.toArray_toList (xs := vs), hv]
      · cases e5
    · cases e2
  · cases e
section
variable {w : World} {h : Heap}
theorem pat36 (X : (hd.heap_39 w.params).In h) : PatAt h 36 cTwin 0 := pat_of X (by kernel_rfl)
theorem pat48 (X : (hd.heap_39 w.params).In h) : PatAt h 48 cTok 1 := pat_of X (by kernel_rfl)
theorem pat53 (X : (hd.heap_39 w.params).In h) : PatAt h 53 cQuo 1 := pat_of X (by kernel_rfl)
theorem pat58 (X : (hd.heap_39 w.params).In h) : PatAt h 58 cVal 1 := pat_of X (by kernel_rfl)
theorem pat63 (X : (hd.heap_39 w.params).In h) : PatAt h 63 cEsc 1 := pat_of X (by kernel_rfl)
theorem pat75 (X : (hd.heap_39 w.params).In h) : PatAt h 75 cJt 0 := pat_of X (by kernel_rfl)
theorem pat80 (X : (hd.heap_39 w.params).In h) : PatAt h 80 cJe 1 := pat_of X (by kernel_rfl)
end
end Mine

set_option Elab.async false
set_option maxRecDepth 100000
set_option maxHeartbeats 1000000
namespace Mine
open PySem PySem.Calls PyProof.Rows PySem.W
section
variable {prog : Program} {w : World} {A : Around} {E : Value → Shared → Prop} {s : Shared} {y : Str} {t u : Tok} {Q : Value → Shared → Prop}
theorem raw_len (v : PV) : (⟨(rawL v).toArray⟩ : Str).length ≤ 1000000 := by cases v <;> decide
theorem quo_fmt (hy : y.length ≤ 1000000) (h : ∀ t' k, Q (.str (Str.ofString "\"" ++ y ++ Str.ofString "\"") t') { s with toks := k }) : wpAny (model prog w) A (binaryOp .Mod (.str (Str.ofString "\"%s\"") t) (.str y u)) Q E s := by
  refine' KPc.mod_str (T := fun z => Str.ofString "\"" ++ z ++ Str.ofString "\"") ?kpcF hy ?kpcm h
  case kpcF => kpc_eq
  case kpcm => kpc_run_s
end
end Mine

set_option Elab.async false
set_option maxRecDepth 100000
set_option maxHeartbeats 4000000
set_option pp.maxSteps 6000
set_option pp.deepTerms false
namespace Mine
open PySem PySem.Calls PyProof.Rows PySem.W PySem.Builtin.Re
/-- a function's code table: empty, or with the one lambda's code -/
def TabSt (line col : Int) (q : Str) (ps : Array Value) (ext : List (Addr × Obj)) : Prop :=
  (ps = #[] ∧ ext = []) ∨ ∃ c' oc vs t, ps = #[rawInt line, rawInt col, .ref c'] ∧ ext = [(c', oc)] ∧ oc.data = .fields vs ∧ vs[1]? = some (.str q t)
/-- the table as it stands now, against how it stood -/
def TabTo (line col : Int) (q : Str) (ps0 : Array Value) (ext0 : List (Addr × Obj)) (ps : Array Value) (ext : List (Addr × Obj)) : Prop :=
  TabSt line col q ps ext ∧ ((ps = ps0 ∧ ext = ext0) ∨ (ps0 = #[] ∧ ext0 = []))
abbrev lamQ : Str := Str.ofString "join_header_words" ++ Str.ofString ".<locals>." ++ Str.ofString "<lambda>"
theorem rm_bool : typeLookup (.type "re.Match") "__bool__" = pure none := by rw [typeLookup_type, builtinLookup_eq_fast]; kernel_rfl
theorem rm_len : typeLookup (.type "re.Match") "__len__" = pure none := by rw [typeLookup_type, builtinLookup_eq_fast]; kernel_rfl
theorem truthy_match {prog : Program} {w : World} {A : Around} {E : Value → Shared → Prop} {s : Shared} {a : Addr} {text : Str} {groups : Nat} {x : Mine.Hit} {Q : Bool → Shared → Prop} (P : MatchAt s.heap a text groups x) (h : Q true s) : wpAny (model prog w) A (truthy (.ref a)) Q E s := by
  obtain ⟨tt, pat, f2, f3, f4, c, o, n, oc, e1, e2, e3, e4, e5, e6⟩ := P.obj
  have hT : s.TypeIs (.ref a) "re.Match" := ⟨o, e1, e2⟩
  unfold truthy
  refine wpAny_bind (wpAny_callSpecial?_none (name := Str.ofString "__bool__") hT rm_bool ?_)
  refine wpAny_bind (wpAny_specialOf (name := Str.ofString "__len__") hT rm_len ?_)
  exact wpAny_pure h
theorem keyS_len (b : Bool) : (keyS b).length ≤ sizeLine := by rw [sizeLine_eq]; cases b <;> decide
theorem valS_len (v : PV) : (valS v).length ≤ sizeLine := by rw [sizeLine_eq]; cases v <;> decide
theorem rawS_len (v : PV) : (rawS v).length ≤ sizeLine := by rw [sizeLine_eq]; cases v <;> decide
def quoS (v : PV) : Str := Str.ofString "\"" ++ rawS v ++ Str.ofString "\""
theorem quoS_len (v : PV) : (quoS v).length ≤ sizeLine := by rw [sizeLine_eq]; cases v <;> decide
theorem lineBig : 1000 ≤ sizeLine := by rw [sizeLine_eq]; decide
theorem truthy_own {prog : Program} {w : World} {A : Around} {E : Value → Shared → Prop} {s : Shared} {h₀ : Heap} {L a : Addr} {news : List (Addr × Obj)} {v : Value} {vs : List Value} {k : Nat} {Q : Bool → Shared → Prop} (N : News h₀ L s.heap news) (hm : (a, W.listOf (v :: vs).toArray k) ∈ news) (hz : (v :: vs).length ≤ 1000)
    (h : Q true { s with toks := s.toks + 1 + 1 }) : wpAny (model prog w) A (truthy (.ref a)) Q E s := by
  refine wpAny_truthy_list (items := (v :: vs).toArray) ⟨_, (N _ hm).1, rfl, k, rfl⟩ (by rw [List.size_toArray]; omega) ?_
  exact h
theorem wordsJn1 : True := by
  k_with_none
  k_with "callWith builtin:list.append cons nil" => k_dflt (refine callWith_method1 ?_)
  k_with "eval Call Name cons nil" => k_dflt (refine Call_ ?_)
  k_with "eval Call Attribute cons nil" => k_dflt (refine MethodCall_ ?_)
  k_with "call builtin:list.append cons nil" => (k_dflt (refine' append_K ?k1 ?k2 ?k3 ?_ ?z; (case k1 => k_asm); (case k2 => k_asm); (case k3 => k_upd); (case z => assumption); k_whole); intro h'ₖ F'ₖ N'ₖ; (try dsimp only))
  k_with "exec For Name Call cons nil" => k_dflt (refine wpAny_For ?_ ?_)
  k_with "exec For Name Name cons nil" => k_dflt (refine wpAny_For ?_ ?_)
  k_with "exec For Tuple Name cons nil" => k_dflt (refine wpAny_For ?_ ?_)
  trivial
theorem wordsJn2 : True := by
  k_with "exec Assign cons ListComp" => (refine Stop.mk ?_)
  k_with "eval ListComp" => (refine Stop.mk ?_)
  k_with "eval Name" => ((with_reducible show wpAny _ _ (eval (Expr.Name _ _) (compEnvC _ _ _ _)) _ _ _); (rename Fr _ _ _ _ => F'ₖ); k_dflt (refine name_in F'ₖ rfl rfl (by with_unfolding_all rfl) ?_))
  k_with "call builtin:str.replace cons nil" => (k_dflt (first | (refine rep1 ?u ?v ?n ?hv ?_; (case n => ((try dsimp only); omega)); (case u => ((try dsimp only); omega)); (case v => ((try dsimp only); omega)); (case hv => decide)) | (refine rep2 ?u ?v ?n ?hv ?_; (case n => ((try dsimp only); omega)); (case u => ((try dsimp only); omega)); (case v => ((try dsimp only); omega)); (case hv => decide))); intro t'ₖ k'ₖ hk'ₖ; (try dsimp only))
  k_with "callWith builtin:str.replace cons cons nil" => k_dflt (refine callWith_method1 ?_)
  k_with "callWith builtin:str.replace cons nil" => k_dflt (refine callWith_method1 ?_)
  k_with "callWith builtin:str.join cons nil" => k_dflt (refine callWith_method1 ?_)
  k_with "call builtin:str.join cons nil" => ((rename News _ _ _ _ => N'ₖ); k_dflt (refine join_K N'ₖ (List.Mem.head _) (by assumption) ?_); intro t'ₖ k'ₖ; (try dsimp only))
  k_with "callWith builtin:len cons nil" => k_dflt (refine PyProof.Rows.callWith_builtin1 ?_)
  k_with "call builtin:len cons nil" => ((rename Fr _ _ _ _ => F'ₖ); k_dflt (refine len_frozen F'ₖ (by assumption) (by assumption) (by assumption) ?_))
  k_with "subscriptTail List cons Slice ref ref" => ((with_reducible show wpAny _ _ (subscriptTail _ (PySem.Expr.Slice _ _ none _) (Value.ref _) (Value.ref _)) _ _ _); k_dflt (refine kba_turn (value' := PySem.Expr.Name (PySem.Str.ofString "_") ⟨0, 0, 0, 0⟩) (fun _ => rfl) ?_; refine' kmk_slice_lit ?F ?N ?l ?p ?q ?e ?_ ?s ?t ?z; (case F => k_asm); (case N => k_asm); (case l => kmk_list); (case p => kmk_part); (case q => kmk_part); (case e => kl_lit); (case s => with_unfolding_all rfl); (case t => kmk_pure); (case z => kmk_size)); intro D'ₖ h'ₖ F'ₖ N'ₖ l1ₖ; (try k_lt l1ₖ))
  k_with "binaryOp Add ref ref" => ((rename Fr _ _ _ _ => F'ₖ); (rename News _ _ _ _ => N'ₖ); k_dflt (refine' add_K F'ₖ N'ₖ ?a ?b ?z ?_; (case a => k_mem); (case b => k_mem); (case z => assumption)); intro D'ₖ h'ₖ F'ₖ N'ₖ l1ₖ; (try k_lt l1ₖ))
  k_with "getAttr ref" => ((with_reducible show wpAny _ _ (getAttr (Value.ref _) (Str.ofString "__contains__") _) _ _ _); (rename Fr _ _ _ _ => F'ₖ); (rename News _ _ _ _ => N'ₖ); k_dflt (refine contains_attr F'ₖ N'ₖ (F'ₖ.keep _ _ (by assumption)) ?_); intro q'ₖ h'ₖ F'ₖ N'ₖ l1ₖ; (try dsimp only); (try k_lt l1ₖ))
  k_with "callWith builtin:iter cons nil" => k_dflt (refine PyProof.Rows.callWith_builtin1 ?_)
  k_with "call builtin:iter cons nil" => ((rename Fr _ _ _ _ => F'ₖ); (rename News _ _ _ _ => N'ₖ); k_dflt (refine iter_list F'ₖ N'ₖ (F'ₖ.keep _ _ (by assumption)) ?_); intro it'ₖ h'ₖ F'ₖ N'ₖ l1ₖ; (try dsimp only); (try k_lt l1ₖ))
  k_with "getMethod ref" => ((with_reducible show wpAny _ _ (getMethod (Value.ref 75) (Str.ofString "fullmatch") _) _ _ _); (rename Fr _ _ _ _ => F'ₖ); (rename Frag.In _ _ => X'ₖ); k_dflt (refine methP' slot_fullmatch ty_fullmatch (pat75 (X'ₖ.keeps F'ₖ.keep)) ?_))
  k_with "getMethod ref" => ((with_reducible show wpAny _ _ (getMethod (Value.ref 80) (Str.ofString "sub") _) _ _ _); (rename Fr _ _ _ _ => F'ₖ); (rename Frag.In _ _ => X'ₖ); k_dflt (refine methP' slot_sub ty_sub (pat80 (X'ₖ.keeps F'ₖ.keep)) ?_))
  k_with "callWith builtin:re.Pattern.fullmatch cons nil" => k_dflt (refine callWith_method1 ?_)
  k_with "callWith builtin:re.Pattern.sub cons nil" => k_dflt (refine callWith_method1 ?_)
  k_with "call builtin:re.Pattern.fullmatch cons nil" => ((rename Fr _ _ _ _ => F'ₖ); (rename News _ _ _ _ => N'ₖ); (rename Frag.In _ _ => X'ₖ); k_dflt (refine full_xy (pat75 (X'ₖ.keeps F'ₖ.keep)) ?_); intro amₖ hm'ₖ Gmₖ fmₖ Pmₖ; replace F'ₖ := Fr_grows F'ₖ Gmₖ; replace N'ₖ := News_grows N'ₖ Gmₖ; (try dsimp only))
  k_with "call builtin:re.Pattern.fullmatch cons nil" => ((rename Fr _ _ _ _ => F'ₖ); (rename Frag.In _ _ => X'ₖ); k_dflt (refine full_no (pat75 (X'ₖ.keeps F'ₖ.keep)) (by decide) ?_); (try dsimp only))
  k_with "truthy ref" => ((rename MatchAt _ _ _ _ _ => P'ₖ); k_dflt (refine truthy_match P'ₖ ?_); (try dsimp only))
  k_with "convS str" => (k_dflt (refine SB.convS_str (hsz := ?hsz) ?_; (case hsz => first | exact keyS_len _ | exact valS_len _ | exact rawS_len _ | exact quoS_len _)); intro _ _; (try dsimp only))
  k_with "formatField str" => (k_dflt (refine PyProof.Rows.formatField_str (hsz := ?hsz) ?_; (case hsz => first | exact keyS_len _ | exact valS_len _ | exact rawS_len _ | exact quoS_len _)); (try intro _ _); (try dsimp only))
  k_with "le" => (k_dflt (first | (refine Nat.le_trans (m := 1000) ?_ lineBig; decide) | (refine Nat.le_trans (m := 1000) ?_ lineBig; cases ‹PV› <;> first | decide | (cases ‹Bool› <;> decide))))
  k_with "call builtin:re.Pattern.sub cons nil" => ((rename Fr _ _ _ _ => F'ₖ); (rename News _ _ _ _ => N'ₖ); (rename Frag.In _ _ => X'ₖ); (rename Top _ _ _ _ _ _ => T'ₖ); k_dflt (refine je_sub (pat80 (X'ₖ.keeps F'ₖ.keep)) ?ty (lam_ok2 (X'ₖ.keeps F'ₖ.keep) (T'ₖ.keeps F'ₖ.keep) ?dp rfl (N'ₖ _ (List.Mem.head _)).1 ?cr) (by assumption) ?_; (case ty => exact ⟨_, (N'ₖ _ (List.Mem.head _)).1, rfl⟩); (case dp => (rename (_ + 2 < recursionLimit) => hd'; exact Nat.lt_of_succ_lt hd')); (case cr => exact codeRec_news N'ₖ (by k_mem) (by assumption) (by assumption))); intro hs'ₖ tks'ₖ ts'ₖ Gsₖ; replace F'ₖ := Fr_grows F'ₖ Gsₖ; replace N'ₖ := News_grows N'ₖ Gsₖ; (try dsimp only))
  k_with "call builtin:re.Pattern.fullmatch cons nil" => ((rename Fr _ _ _ _ => F'ₖ); (rename Frag.In _ _ => X'ₖ); k_dflt (refine full_no (pat75 (X'ₖ.keeps F'ₖ.keep)) (by assumption) ?_); (try dsimp only))
  k_with "binaryOp Mod str str" => (k_dflt (refine quo_fmt (raw_len _) ?_); intro _ _; (try dsimp only))
  k_with "joinParts" => ((first | (with_reducible show wpAny _ _ (joinParts _ []) _ _ _) | (with_reducible show wpAny _ _ (joinParts _ (evalEach [] _)) _ _ _)); k_dflt (refine PyProof.Rows.joinParts_nil ?_ ?sz; (case sz => (refine Nat.le_trans (m := 1000) ?_ lineBig; first | decide | (cases ‹PV› <;> first | decide | (cases ‹Bool› <;> decide))))))
  k_with "truthy ref" => ((rename News _ _ _ _ => N'ₖ); k_dflt (refine truthy_own N'ₖ (List.Mem.head _) (by assumption) ?_); (try dsimp only))
  trivial

section
variable {w : World} {p : Program} {loose : List Str} {mean : ExcName → Option Value} {mg mb : Str → Option Value} {dp un : Nat} {fr : Option (List Env)} {gd : Option (List Code)} {s : Shared} {Q E : Value → Shared → Prop}
def JoinJ (ps0 : Array Value) (ext0 : List (Addr × Obj)) (rows : List (List (Bool × PV))) (hs : Addr) (i : Nat) (m : Str → Option Value) (nx : List (Addr × Obj)) : Prop :=
  ∃ (lst : List (Str × Tok)) (k : Nat) (ps : Array Value) (ext : List (Addr × Obj)), nx = (hs, W.listOf (strValues lst).toArray k) :: (82, tabObj ps) :: ext ∧ @Ne Nat hs 82 ∧ (∀ p ∈ ext, @Ne Nat p.1 82 ∧ @Ne Nat p.1 hs) ∧ lst.map (·.1) = toldS (rows.take i) ∧ TabTo 57 50 lamQ ps0 ext0 ps ext ∧ m (Str.ofString "headers") = some (.ref hs)

def AttrJ (ps0 : Array Value) (ext0 : List (Addr × Obj)) (r : List (Bool × PV)) (at' hs : Addr) (lst : List (Str × Tok)) (kh : Nat) (ownO : List (Addr × Obj)) (i : Nat) (m : Str → Option Value) (nx : List (Addr × Obj)) : Prop :=
  ∃ (as : List (Str × Tok)) (k : Nat) (ps : Array Value) (ext : List (Addr × Obj)), nx = (at', W.listOf (strValues as).toArray k) :: (82, tabObj ps) :: (hs, W.listOf (strValues lst).toArray kh) :: (ext ++ ownO) ∧ OwnOff (ext ++ ownO) [at', 82, hs] ∧ (∀ q ∈ ownO, ∀ p ∈ ext, p.1 ≠ q.1) ∧ as.map (·.1) = (r.take i).map pairS ∧ TabTo 57 50 lamQ ps0 ext0 ps ext ∧
    m (Str.ofString "attr") = some (.ref at') ∧ m (Str.ofString "headers") = some (.ref hs)
theorem attr_turn {ps0 : Array Value} {ext0 : List (Addr × Obj)} {r : List (Bool × PV)} {at' hs L : Addr} {B : Heap} {as lst : List (Str × Tok)} {k kh j : Nat} {ps : Array Value} {ext own own₂ big : List (Addr × Obj)} {x : Str} {t : Tok} {q : Bool × PV} {s : Shared} {h' : Heap} {tk : Nat} {m' : Str → Option Value} (F : Fr B L h' m') (N : News B L h' big)
    (b1 : (at', W.listOf ((strValues as).toArray.push (.str x t)) (k + 1)) ∈ big) (b2 : (82, tabObj ps) ∈ big) (b3 : (hs, W.listOf (strValues lst).toArray kh) ∈ big) (b4 : ∀ p ∈ ext ++ own, p ∈ big) (b5 : ∀ p ∈ own₂, p ∈ big)
    (o1 : OwnOff (ext ++ own) [at', 82, hs]) (o2 : OwnOff own₂ [at', 82, hs]) (o3 : ∀ q ∈ own₂, ∀ p ∈ ext ++ own, p.1 ≠ q.1) (o4 : ∀ q ∈ own, ∀ p ∈ ext, p.1 ≠ q.1) (hx : x = pairS q) (has : as.map (·.1) = (r.take j).map pairS) (htk : r.take (j + 1) = r.take j ++ [q]) (hst : TabTo 57 50 lamQ ps0 ext0 ps ext)
    (hm : m' (Str.ofString "attr") = some (.ref at')) (hm2 : m' (Str.ofString "headers") = some (.ref hs)) : TurnEnd B L (AttrJ ps0 ext0 r at' hs lst kh own (j + 1)) own₂ s .next { s with heap := h', toks := tk } := by
  refine turn_end ((at', W.listOf (strValues (as ++ [(x, t)])).toArray (k + 1)) :: (82, tabObj ps) :: (hs, W.listOf (strValues lst).toArray kh) :: (ext ++ own)) F N ?_ b5 ?_ ?_
  · intro p hp
    rcases List.mem_cons.mp hp with rfl | hp
    · rw [show (strValues (as ++ [(x, t)])).toArray = (strValues as).toArray.push (.str x t) by simp [strValues]]; exact b1
    · rcases List.mem_cons.mp hp with rfl | hp
      · exact b2
      · rcases List.mem_cons.mp hp with rfl | hp
        · exact b3
        · exact b4 p hp
  · intro p2 hp2 p hp
    rcases List.mem_cons.mp hp with rfl | hp
    · exact (o2 p2 hp2 _ (.head _)).symm
    · rcases List.mem_cons.mp hp with rfl | hp
      · exact (o2 p2 hp2 82 (.tail _ (.head _))).symm
      · rcases List.mem_cons.mp hp with rfl | hp
        · exact (o2 p2 hp2 hs (.tail _ (.tail _ (.head _)))).symm
        · exact o3 p2 hp2 p hp
  · refine ⟨as ++ [(x, t)], k + 1, ps, ext, rfl, o1, o4, ?_, hst, hm, hm2⟩
    rw [List.map_append, has, htk, List.map_append, hx]; rfl
theorem join_turn {ps0 : Array Value} {ext0 : List (Addr × Obj)} {rows : List (List (Bool × PV))} {r : List (Bool × PV)} {hs L : Addr} {B : Heap} {lst zl : List (Str × Tok)} {k i : Nat} {ps : Array Value} {ext own big : List (Addr × Obj)} {s : Shared} {h' : Heap} {tk : Nat} {m' : Str → Option Value} (F : Fr B L h' m') (N : News B L h' big)
    (b1 : (hs, W.listOf (strValues (lst ++ zl)).toArray k) ∈ big) (b2 : (82, tabObj ps) ∈ big) (b4 : ∀ p ∈ ext ++ own, p ∈ big) (hne : @Ne Nat hs 82) (o1 : ∀ p ∈ ext, @Ne Nat p.1 82 ∧ @Ne Nat p.1 hs) (o2 : ∀ q ∈ own, @Ne Nat hs q.1 ∧ @Ne Nat 82 q.1) (o3 : ∀ q ∈ own, ∀ p ∈ ext, p.1 ≠ q.1)
    (hl : lst.map (·.1) = toldS (rows.take i)) (htk : rows.take (i + 1) = rows.take i ++ [r]) (hz : zl.map (·.1) = if r.isEmpty then [] else [rowS r]) (hst : TabTo 57 50 lamQ ps0 ext0 ps ext) (hm : m' (Str.ofString "headers") = some (.ref hs)) :
    TurnEnd B L (JoinJ ps0 ext0 rows hs (i + 1)) own s .next { s with heap := h', toks := tk } := by
  refine turn_end ((hs, W.listOf (strValues (lst ++ zl)).toArray k) :: (82, tabObj ps) :: ext) F N ?_ (fun p hp => b4 p (List.mem_append.mpr (.inr hp))) ?_ ?_
  · intro p hp
    rcases List.mem_cons.mp hp with rfl | hp
    · exact b1
    · rcases List.mem_cons.mp hp with rfl | hp
      · exact b2
      · exact b4 p (List.mem_append.mpr (.inl hp))
  · intro q hq p hp
    rcases List.mem_cons.mp hp with rfl | hp
    · exact (o2 q hq).1
    · rcases List.mem_cons.mp hp with rfl | hp
      · exact (o2 q hq).2
      · exact o3 q hq p hp
  · exact ⟨lst ++ zl, k, ps, ext, rfl, hne, o1, by rw [List.map_append, hl, hz, htk, toldS_snoc], hst, hm⟩
theorem push_str (lst : List (Str × Tok)) (x : Str) (t : Tok) : (strValues (lst ++ [(x, t)])).toArray = (strValues lst).toArray.push (.str x t) := by simp [strValues]
theorem join_turn2 {ps0 : Array Value} {ext0 : List (Addr × Obj)} {rows : List (List (Bool × PV))} {r : List (Bool × PV)} {hs L : Addr} {B : Heap} {lst : List (Str × Tok)} {x : Str} {t : Tok} {k i : Nat} {ps : Array Value} {ext own big : List (Addr × Obj)} {s : Shared} {h' : Heap} {tk : Nat} {m' : Str → Option Value} (F : Fr B L h' m') (N : News B L h' big)
    (b1 : (hs, W.listOf ((strValues lst).toArray.push (.str x t)) k) ∈ big) (b2 : (82, tabObj ps) ∈ big) (b4 : ∀ p ∈ ext ++ own, p ∈ big) (hne : @Ne Nat hs 82) (o1 : ∀ p ∈ ext, @Ne Nat p.1 82 ∧ @Ne Nat p.1 hs) (o2 : ∀ q ∈ own, @Ne Nat hs q.1 ∧ @Ne Nat 82 q.1) (o3 : ∀ q ∈ own, ∀ p ∈ ext, p.1 ≠ q.1)
    (hl : lst.map (·.1) = toldS (rows.take i)) (htk : rows.take (i + 1) = rows.take i ++ [r]) (hr : r.isEmpty = false) (hx : x = rowS r) (hst : TabTo 57 50 lamQ ps0 ext0 ps ext) (hm : m' (Str.ofString "headers") = some (.ref hs)) :
    TurnEnd B L (JoinJ ps0 ext0 rows hs (i + 1)) own s .next { s with heap := h', toks := tk } :=
  join_turn (zl := [(x, t)]) F N (by rw [push_str]; exact b1) b2 b4 hne o1 o2 o3 hl htk (by rw [hr]; simp [hx]) hst hm
theorem join_c {a : Addr} {g ext0 : List (Addr × Obj)} {ps0 : Array Value} {rows : List (List (Bool × PV))} (X : (hd.heap_39 w.params).In (hideAll s.heap (82 :: ext0.map (·.1)))) (T : Top p loose mean mg mb (hideAll s.heap (82 :: ext0.map (·.1)))) (C : CodeHd (hideAll s.heap (82 :: ext0.map (·.1))) 86 82) (hd : dp + 2 < recursionLimit) (hu : un + 40 < cLine)
    (ht : s.heap.get? 82 = some (tabObj ps0)) (he : ∀ p ∈ ext0, s.heap.get? p.1 = some p.2) (he2 : ∀ p ∈ ext0, @Ne Nat p.1 82) (hst : TabSt 57 50 lamQ ps0 ext0)
    (G : ∀ p ∈ g, (hideAll s.heap (82 :: ext0.map (·.1))).get? p.1 = some p.2) (D : DatIn g (.ref a) (rowsD rows)) (hn : rows.length ≤ 16) (hn3 : ∀ r ∈ rows, r.length ≤ 3)
    (h : ∀ h' tk' t ps ext, (∀ b o, @Ne Nat b 82 → s.heap.get? b = some o → h'.get? b = some o) → h'.get? 82 = some (tabObj ps) → (∀ p ∈ ext, h'.get? p.1 = some p.2) → (∀ p ∈ ext, @Ne Nat p.1 82) → TabSt 57 50 lamQ ps ext →
      ((ps = ps0 ∧ ext = ext0) ∨ (ps0 = #[] ∧ ext0 = [] ∧ ∀ p ∈ ext, s.heap.get? p.1 = none)) → Q (.str (textS rows) t) { s with heap := h', toks := tk' }) :
    wpAny (model PySem.Challenge.rw_ik0003_01.row.prog w) (Ar dp fr gd un) (call (.ref 87) [.ref a]) Q E s := by
  refine wpAny_call ?_
  refine' enter_K (binds := [(Str.ofString "lists", .ref a)]) ((82, tabObj ps0) :: ext0) ?k0 (fun b o e => of_hideAll _ (X b o e)) (T.nolimit.keeps fun b o e => of_hideAll _ e) ?k6 ?k7 ?k8 ?k9 ?kB ?_ ?c2 ?c3 ?c4 ?c5
  case k6 => k_is
  case k7 => k_is
  case k0 => exact List.forall_mem_cons.mpr ⟨ht, he⟩
  case k8 => (show dp < recursionLimit; omega)
  case k9 => exact BindsTo.of_eq rfl
  case kB => exact locs rfl
  case c2 => exact rfl
  case c3 => exact rfl
  case c4 => exact rfl
  case c5 => decide
  intro L' h₁ F N hlt
  rw [show ((82, tabObj ps0) :: ext0).map (·.1) = 82 :: ext0.map (·.1) from rfl] at F N
  generalize hg : hideAll s.heap (82 :: ext0.map (·.1)) = B at *
  replace F : Fr B L' h₁ (fun y => List.lookup y [(Str.ofString "lists", .ref a)]) := F
  (try dsimp only)
  refine hide_Q fun Qg eQ => ?_
  k_steps
  unfold Stop
  rename Fr _ _ _ _ => F'
  rename News _ _ _ _ => N'
  rename _ ∧ AllLt _ _ => lt0
  obtain ⟨l0, l1⟩ := lt0
  have l2 := allLt_lt l1
  obtain ⟨a', vs, n, e, hm, hD⟩ := datList D
  cases e
  rename_i hs' _ _
  refine for_loop (vs := vs) (JoinJ ps0 ext0 rows hs') rfl F' N' ⟨[], 0, ps0, ext0, rfl, Nat.ne_of_gt l0, fun p hp => ⟨he2 p hp, Nat.ne_of_lt (l2 p hp)⟩, rfl, ⟨hst, .inl ⟨rfl, rfl⟩⟩, rfl⟩ (fun i m nx hh _ F₂ _ => ⟨_, F₂.keep _ _ (G _ hm), rfl, n, rfl⟩) ?_ ?_
  · rintro i v m₁ nx hh tk own hv ⟨lst, k, ps, ext, rfl, hne, hext, hlst, hst, hm1⟩ hown F₂ N₂
    clear F' N'
    rw [m_has hm1] at F₂
    obtain ⟨v', hv', hDv⟩ := hD.get (k := i) (by rw [← hD.length]; exact (List.getElem?_eq_some_iff.mp hv).1)
    rw [hv] at hv'
    cases hv'
    have hir : i < rows.length := by have := (List.getElem?_eq_some_iff.mp hv).1; rw [hD.length, List.length_map] at this; exact this
    rw [List.getElem_map] at hDv
    have hr3 := hn3 rows[i] (List.getElem_mem hir)
    have htk : rows.take (i + 1) = rows.take i ++ [rows[i]] := by rw [List.take_add_one, List.getElem?_eq_getElem hir]; rfl
    generalize rows[i] = r at hDv hr3 htk
    obtain ⟨ra, rvs, rn, e, hrm, hrD⟩ := datList hDv
    cases e
    replace N₂ : News B L' hh ((hs', W.listOf (strValues lst).toArray k) :: (82, tabObj ps) :: (ext ++ own)) := N₂
    k_steps
    unfold Stop
    rename Fr _ _ _ _ => F₃
    rename News _ _ _ _ => N₃
    rename _ ∧ _ ∧ AllLt _ _ => lt3
    obtain ⟨l3, l4, l5⟩ := lt3
    have l6 := allLt_lt l5
    rename_i at' _ _
    have hoff : OwnOff (ext ++ own) [at', 82, hs'] := by
      intro p hp c hc
      rcases List.mem_cons.mp hc with rfl | hc
      · exact Nat.ne_of_lt (l6 p hp)
      · rcases List.mem_append.mp hp with hp | hp
        · rcases List.mem_cons.mp hc with rfl | hc
          · exact (hext p hp).1
          · rw [List.mem_singleton.mp hc]; exact (hext p hp).2
        · rcases List.mem_cons.mp hc with rfl | hc
          · exact fun e => hown p hp (82, tabObj ps) (.tail _ (.head _)) e.symm
          · rw [List.mem_singleton.mp hc]; exact fun e => hown p hp (hs', W.listOf (strValues lst).toArray k) (.head _) e.symm
    have N₄ : News B L' _ ((at', W.listOf (strValues ([] : List (Str × Tok))).toArray 0) :: (82, tabObj ps) :: (hs', W.listOf (strValues lst).toArray k) :: (ext ++ own)) := fun p hp => by
      rcases List.mem_cons.mp hp with rfl | hp
      · exact N₃ _ (.head _)
      · rcases List.mem_cons.mp hp with rfl | hp
        · exact N₃ _ (.tail _ (.tail _ (.head _)))
        · rcases List.mem_cons.mp hp with rfl | hp
          · exact N₃ _ (.tail _ (.head _))
          · exact N₃ _ (.tail _ (.tail _ (.tail _ hp)))
    refine for_loop (vs := rvs) (AttrJ ps0 ext0 r at' hs' lst k own) rfl F₃ N₄ ⟨[], 0, ps, ext, rfl, hoff, fun q hq p hp => hown q hq p (.tail _ (.tail _ hp)), rfl, hst, rfl, rfl⟩ (fun i m nx hh _ F₂ _ => ⟨_, F₂.keep _ _ (G _ hrm), rfl, rn, rfl⟩) ?_ ?_
    · clear F₂ F₃ N₃ N₄ hoff hst hext
      rintro j pv m₂ nx h₄ tk₄ own₂ hpv ⟨as, k2, ps, ext, rfl, hoff, hdis, has, hst, hm2, hm3⟩ hown₂ F₄ N₄
      obtain ⟨pv', hpv', hDp⟩ := hrD.get (k := j) (by rw [← hrD.length]; exact (List.getElem?_eq_some_iff.mp hpv).1)
      rw [hpv] at hpv'
      cases hpv'
      have hjr : j < r.length := by have := (List.getElem?_eq_some_iff.mp hpv).1; rw [hrD.length, List.length_map] at this; exact this
      rw [List.getElem_map] at hDp
      have htk2 : r.take (j + 1) = r.take j ++ [r[j]] := by rw [List.take_add_one, List.getElem?_eq_getElem hjr]; rfl
      generalize r[j] = q at hDp htk2
      obtain ⟨pa, pn, pt, py, e, hpm, hpy⟩ := datPair hDp
      cases e
      have hpo := G _ hpm
      refine assign_pair rfl ⟨_, F₄.keep _ _ hpo, rfl, pn, rfl⟩ rfl rfl rfl F₄.ns ?_
      intro h₅ tk₅ htk₅ hns₅ hk₅
      rw [m_has hm2, m_has hm3] at hns₅
      have F₅ := Fr.mk (h₀ := B) hns₅ (fun b o e => hk₅ b o (fun q => Nat.lt_irrefl _ (Nat.lt_of_lt_of_le (Heap.lt_size (q ▸ e)) F₄.above)) (F₄.keep b o e)) F₄.above
      have N₅ : News B L' h₅ ((at', W.listOf (strValues as).toArray k2) :: (82, tabObj ps) :: (hs', W.listOf (strValues lst).toArray k) :: ((ext ++ own) ++ own₂)) := fun p hp => ⟨hk₅ _ _ (N₄ p hp).2.1 (N₄ p hp).1, (N₄ p hp).2⟩
      have hoff₅ : OwnOff ((ext ++ own) ++ own₂) [at', 82, hs'] := by
        intro p hp c hc
        rcases List.mem_append.mp hp with hp | hp
        · exact hoff p hp c hc
        · rcases List.mem_cons.mp hc with rfl | hc
          · exact fun e => hown₂ p hp _ (.head _) e.symm
          · rcases List.mem_cons.mp hc with rfl | hc
            · exact fun e => hown₂ p hp (82, tabObj ps) (.tail _ (.head _)) e.symm
            · rw [List.mem_singleton.mp hc]; exact fun e => hown₂ p hp (hs', W.listOf (strValues lst).toArray k) (.tail _ (.tail _ (.head _))) e.symm
      have hne1 : @Ne Nat at' 82 := Nat.ne_of_gt l4
      have hne2 : @Ne Nat at' hs' := Nat.ne_of_gt l3
      have hza : (strValues as).toArray.size ≤ sizeLine := by
        have := congrArg List.length has
        rw [List.length_map, List.length_map, List.length_take] at this
        rw [sizeLine_eq, List.size_toArray]; simp only [strValues, List.length_map]; omega
      clear F₄ N₄ hns₅ hk₅
      rcases datPv hpy with ⟨rfl, hq⟩ | ⟨vt, rfl, hq⟩
      · k_steps
        rename Fr _ _ _ _ => F₆
        rename News _ _ _ _ => N₆
        refine attr_turn (q := q) F₆ N₆ (.head _) (.tail _ (.head _)) (.tail _ (.tail _ (.head _))) (fun p hp => .tail _ (.tail _ (.tail _ (List.mem_append.mpr (.inl hp))))) (fun p hp => .tail _ (.tail _ (.tail _ (List.mem_append.mpr (.inr hp))))) hoff (fun p hp => hoff₅ p (List.mem_append.mpr (.inr hp))) ?_ hdis ?_ has htk2 hst rfl rfl
        · exact fun p2 hp2 p hp => hown₂ p2 hp2 p (.tail _ (.tail _ (.tail _ hp)))
        · rw [pairS, hq]; simp [sfxL, keyS]
      · obtain ⟨qb, qv⟩ := q
        by_cases hxy : qv = .xy
        · subst hxy
          cases qb
          all_goals k_steps
          all_goals (rename Fr _ _ _ _ => F₆; rename News _ _ _ _ => N₆)
          all_goals (refine attr_turn F₆ N₆ (.head _) (.tail _ (.head _)) (.tail _ (.tail _ (.head _))) (fun p hp => .tail _ (.tail _ (.tail _ (List.mem_append.mpr (.inl hp))))) (fun p hp => .tail _ (.tail _ (.tail _ (List.mem_append.mpr (.inr hp))))) hoff (fun p hp => hoff₅ p (List.mem_append.mpr (.inr hp))) ?_ hdis ?_ has htk2 hst rfl rfl)
          all_goals first | exact fun p2 hp2 p hp => hown₂ p2 hp2 p (.tail _ (.tail _ (.tail _ hp))) | decide +kernel
        · have hv3 : qv = .emp ∨ qv = .semi ∨ qv = .esc := by cases qv <;> simp_all
          clear hxy
          obtain ⟨hst, hsm⟩ := hst
          rcases hst with ⟨rfl, rfl⟩ | ⟨c', oc, cvs, ct, rfl, rfl, hoc1, hoc2⟩
          · simp only [List.nil_append] at N₅ hoff₅
            k_steps
            rename Fr _ _ _ _ => F₆
            rename News _ _ _ _ => N₆
            rename _ ∧ _ ∧ _ ∧ AllLt _ _ => ltc
            obtain ⟨q1, q2, q3, q4⟩ := ltc
            have q5 := allLt_lt q4
            rename _ = Data.fields _ => hd1
            rename _ = some (Value.str _ _) => hd2
            refine attr_turn (ext := [(_, _)]) F₆ N₆ (.tail _ (.tail _ (.head _))) (.tail _ (.tail _ (.tail _ (.head _)))) (.tail _ (.tail _ (.tail _ (.tail _ (.head _))))) ?_ (fun p hp => .tail _ (.tail _ (.tail _ (.tail _ (.tail _ (List.mem_append.mpr (.inr hp))))))) ?_ (fun p hp => hoff₅ p (List.mem_append.mpr (.inr hp))) ?_ ?_ ?_ has htk2 ⟨.inr ⟨_, _, _, _, rfl, rfl, hd1, hd2⟩, .inr (hsm.elim (fun z => ⟨z.1.symm, z.2.symm⟩) id)⟩ rfl rfl
            · intro p hp
              rcases List.mem_cons.mp hp with rfl | hp
              · exact .tail _ (.head _)
              · exact .tail _ (.tail _ (.tail _ (.tail _ (.tail _ (List.mem_append.mpr (.inl hp))))))
            · intro p hp c hc
              rcases List.mem_cons.mp hp with rfl | hp
              · rcases List.mem_cons.mp hc with rfl | hc
                · exact Nat.ne_of_gt q1
                · rcases List.mem_cons.mp hc with rfl | hc
                  · exact Nat.ne_of_gt q2
                  · rw [List.mem_singleton.mp hc]; exact Nat.ne_of_gt q3
              · exact hoff p hp c hc
            · intro p2 hp2 p hp
              rcases List.mem_cons.mp hp with rfl | hp
              · exact Nat.ne_of_gt (q5 p2 (List.mem_append.mpr (.inr hp2)))
              · exact hown₂ p2 hp2 p (.tail _ (.tail _ (.tail _ hp)))
            · intro p2 hp2 p hp
              rw [List.mem_singleton.mp hp]
              exact Nat.ne_of_gt (q5 p2 (List.mem_append.mpr (.inl hp2)))
            · cases qb <;> (rcases hv3 with rfl | rfl | rfl <;> decide +kernel)
          · simp only [List.cons_append, List.nil_append] at N₅ hoff₅
            k_steps
            rename Fr _ _ _ _ => F₆
            rename News _ _ _ _ => N₆
            refine attr_turn (ext := [(c', oc)]) F₆ N₆ (.tail _ (.head _)) (.tail _ (.tail _ (.head _))) (.tail _ (.tail _ (.tail _ (.head _)))) ?_ (fun p hp => .tail _ (.tail _ (.tail _ (.tail _ (.tail _ (List.mem_append.mpr (.inr hp))))))) hoff (fun p hp => hoff₅ p (.tail _ (List.mem_append.mpr (.inr hp)))) ?_ hdis ?_ has htk2 ⟨.inr ⟨c', oc, cvs, ct, rfl, rfl, hoc1, hoc2⟩, hsm⟩ rfl rfl
            · intro p hp
              rcases List.mem_cons.mp hp with rfl | hp
              · exact .tail _ (.tail _ (.tail _ (.tail _ (.head _))))
              · exact .tail _ (.tail _ (.tail _ (.tail _ (.tail _ (List.mem_append.mpr (.inl hp))))))
            · exact fun p2 hp2 p hp => hown₂ p2 hp2 p (.tail _ (.tail _ (.tail _ hp)))
            · cases qb <;> (rcases hv3 with rfl | rfl | rfl <;> decide +kernel)
    · clear F₂ F₃ N₃ N₄ hoff hst hext
      rintro m₂ nx h₄ tk₄ ⟨as, k2, ps, ext, rfl, hoff, hdis, has, hst, hm2, hm3⟩ F₄ N₄
      rw [m_has hm2, m_has hm3] at F₄
      rw [hrD.length, List.length_map, List.take_length] at has
      have hne1 : @Ne Nat at' 82 := Nat.ne_of_gt l4
      have hne2 : @Ne Nat at' hs' := Nat.ne_of_gt l3
      have hj : JoinOk (Str.ofString "; ") (as.map (·.1)) = true := by
        rw [has]
        exact joinOk_small (n := 20) (c := 3) (fun x hx => by obtain ⟨y, _, rfl⟩ := List.mem_map.mp hx; exact pairS_len y) (by rw [List.length_map]; exact hr3) (by decide)
      have o1 : ∀ p ∈ ext, @Ne Nat p.1 82 ∧ @Ne Nat p.1 hs' := fun p hp => ⟨hoff p (List.mem_append.mpr (.inl hp)) 82 (.tail _ (.head _)), hoff p (List.mem_append.mpr (.inl hp)) hs' (.tail _ (.tail _ (.head _)))⟩
      have o2 : ∀ q ∈ own, @Ne Nat hs' q.1 ∧ @Ne Nat 82 q.1 := fun p hp => ⟨(hoff p (List.mem_append.mpr (.inr hp)) hs' (.tail _ (.tail _ (.head _)))).symm, (hoff p (List.mem_append.mpr (.inr hp)) 82 (.tail _ (.head _))).symm⟩
      cases as with
      | nil =>
        have hre : r.isEmpty = true := by cases r with
          | nil => rfl
          | cons _ _ => cases has
        k_steps
        rename Fr _ _ _ _ => F₆
        rename News _ _ _ _ => N₆
        refine join_turn (zl := []) (lst := lst) (k := k) F₆ N₆ ?_ (.tail _ (.head _)) (fun p hp => .tail _ (.tail _ (.tail _ hp))) hne o1 o2 hdis hlst htk ?_ hst rfl
        · rw [List.append_nil]
          exact .tail _ (.tail _ (.head _))
        · rw [hre]; rfl
      | cons p1 as =>
        have hzt : (strValues (p1 :: as)).length ≤ 1000 := by have := congrArg List.length has; rw [List.length_map, List.length_map] at this; simp only [strValues, List.length_map]; omega
        have hzl : (strValues lst).toArray.size ≤ sizeLine := by
          have := congrArg List.length hlst
          unfold toldS at this
          rw [List.length_map, List.length_map] at this
          have h2 := List.length_filter_le (fun r => !r.isEmpty) (rows.take i)
          rw [List.length_take] at h2
          rw [sizeLine_eq, List.size_toArray]; simp only [strValues, List.length_map]; omega
        have hre : r.isEmpty = false := by cases r with
          | nil => cases has
          | cons _ _ => rfl
        k_steps
        rename Fr _ _ _ _ => F₆
        rename News _ _ _ _ => N₆
        exact join_turn2 F₆ N₆ (.tail _ (.tail _ (.head _))) (.tail _ (.head _)) (fun p hp => .tail _ (.tail _ (.tail _ hp))) hne o1 o2 hdis hlst htk hre (by rw [has]; rfl) hst rfl
  · rintro m₁ nx hh tk ⟨lst, k, ps, ext, rfl, hne, hext, hlst, hst, hm1⟩ F₂ N₂
    clear F' N'
    rw [m_has hm1] at F₂
    rw [hD.length, List.length_map, List.take_length] at hlst
    have hj : JoinOk (Str.ofString ", ") (lst.map (·.1)) = true := by
      rw [hlst]
      refine joinOk_small (n := 100) (c := 16) (fun x hx => ?_) ?_ (by decide)
      · unfold toldS at hx
        obtain ⟨r, hr, rfl⟩ := List.mem_map.mp hx
        exact rowS_len r (hn3 r (List.mem_filter.mp hr).1)
      · unfold toldS
        rw [List.length_map]
        exact Nat.le_trans (List.length_filter_le ..) hn
    k_steps
    subst eQ
    (try dsimp only)
    rename Fr _ _ _ _ => F₉
    rename News _ _ _ _ => N₉
    rw [hlst]
    refine h _ _ _ ps ext ?_ (N₉ _ (.tail _ (.head _))).1 (fun p hp => (N₉ p (.tail _ (.tail _ hp))).1) (fun p hp => (hext p hp).1) hst.1 ?_
    · intro b o hb e
      by_cases hbe : b ∈ ext0.map (·.1)
      · obtain ⟨q, hq, rfl⟩ := List.mem_map.mp hbe
        rw [he q hq] at e
        cases e
        rcases hst.2 with ⟨_, rfl⟩ | ⟨_, rfl⟩
        · exact (N₉ q (.tail _ (.tail _ hq))).1
        · cases hq
      · refine F₉.keep b o ?_
        rw [← hg]
        refine hideAll_get _ e ?_
        intro hb2
        rcases List.mem_cons.mp hb2 with rfl | hb2
        · exact hb rfl
        · exact hbe hb2
    · rcases hst.2 with hst2 | ⟨q1, q2⟩
      · exact .inl hst2
      · refine .inr ⟨q1, q2, fun p hp => ?_⟩
        have hz := (N₉ p (.tail _ (.tail _ hp))).2.2
        rw [← hg, q2] at hz
        replace hz : (hideAll s.heap [82]).get? p.1 = none := hz
        cases e : s.heap.get? p.1 with
        | none => rfl
        | some o =>
          rw [hideAll_get _ e (fun hb2 => (hext p hp).1 (List.mem_singleton.mp hb2))] at hz
          cases hz
end
end Mine

set_option Elab.async false
set_option maxRecDepth 100000
set_option maxHeartbeats 400000
namespace Mine
open PySem PySem.Calls PyProof.Rows PySem.W PySem.Builtin.Re
abbrev Pr := Bool × PV
/-- what follows a pair: further pairs, each behind a semicolon or a comma -/
def itemsL : List (Bool × Pr) → List Nat
  | [] => []
  | (c, p) :: r => (if c then 44 else 59) :: 32 :: (keyL p.1 ++ (sfxL p.2 ++ itemsL r))
def textA (l : Bool) (p : Pr) (is : List (Bool × Pr)) : Str := ⟨(leadL l ++ (keyL p.1 ++ (sfxL p.2 ++ itemsL is))).toArray⟩
def textV (v : PV) (is : List (Bool × Pr)) : Str := ⟨(sfxL v ++ itemsL is).toArray⟩
def textB (is : List (Bool × Pr)) : Str := ⟨(itemsL is).toArray⟩
def tokHit (l k : Bool) : Hit := ⟨0, (leadL l ++ keyL k).length, 1, 1, [some (leadL l).length, some (leadL l ++ keyL k).length]⟩
def quoHit (v : PV) : Hit := ⟨0, (rawL v).length + 3, 1, 1, [some 2, some ((rawL v).length + 2)]⟩
def valHit : Hit := ⟨0, 3, 1, 1, [some 1, some 3]⟩
theorem items_head : ∀ is : List (Bool × Pr), itemsL is = [] ∨ ∃ d k r, itemsL is = d :: 32 :: k :: r ∧ (d = 59 ∨ d = 44) ∧ (k = 97 ∨ k = 66)
  | [] => .inl rfl
  | (c, b, v) :: r => by
    refine .inr ⟨if c then 44 else 59, if b then 66 else 97, (if b then [99] else []) ++ (sfxL v ++ itemsL r), ?_, ?_, ?_⟩
    · cases c <;> cases b <;> rfl
    · cases c <;> simp
    · cases b <;> simp
theorem rest_head (v : PV) (is : List (Bool × Pr)) : sfxL v ++ itemsL is = [] ∨ ∃ d r, sfxL v ++ itemsL is = d :: r ∧ (d = 61 ∨ d = 59 ∨ d = 44) := by
  cases v with
  | non =>
    rcases items_head is with e | ⟨d, k, r, e, hd, _⟩
    · exact .inl e
    · exact .inr ⟨d, 32 :: k :: r, e, .inr hd⟩
  | _ => exact .inr ⟨61, _, rfl, .inl rfl⟩
theorem tok_end (l k : Bool) (v : PV) (is : List (Bool × Pr)) : Ends (Sre.forSearch cTok (textA l (k, v) is).cps 1 0 (textA l (k, v) is).cps.size false) 200 (some (tokHit l k)) := by
  have e1 := List.all_eq_true.mp (List.all_eq_true.mp tok_ends l (by cases l <;> simp)) k (by cases k <;> simp)
  have e2 := List.all_eq_true.mp (List.all_eq_true.mp tok_checks l (by cases l <;> simp)) k (by cases k <;> simp)
  show Ends (Sre.forSearch cTok (leadL l ++ (keyL k ++ (sfxL v ++ itemsL is))).toArray 1 0 (leadL l ++ (keyL k ++ (sfxL v ++ itemsL is))).toArray.size false) 200 _
  rw [List.size_toArray]
  rcases rest_head v is with e | ⟨d, r, e, hd⟩
  · rw [e, List.append_nil]
    exact ends_of_B e1
  · have e3 := List.all_eq_true.mp e2 d (by rcases hd with rfl | rfl | rfl <;> simp)
    rw [e, show leadL l ++ (keyL k ++ d :: r) = (leadL l ++ keyL k ++ [d]) ++ r by simp]
    exact hit_of e3 r
theorem tok_none {is : List (Bool × Pr)} (h : is ≠ []) : Ends (Sre.forSearch cTok (textB is).cps 1 0 (textB is).cps.size false) (5 + (2 * (itemsL is).length + 2)) none := by
  show Ends (Sre.forSearch cTok (itemsL is).toArray 1 0 (itemsL is).toArray.size false) _ none
  rw [List.size_toArray]
  rcases items_head is with e | ⟨d, k, r, e, hd, _⟩
  · cases is with
    | nil => exact absurd rfl h
    | cons p r => cases e
  · rw [e]
    exact miss_of (List.all_eq_true.mp tok_miss d (by rcases hd with rfl | rfl <;> simp)) (32 :: k :: r)
theorem quo_some {v : PV} (hv : v = .emp ∨ v = .semi ∨ v = .esc) (is : List (Bool × Pr)) : Ends (Sre.forSearch cQuo (textV v is).cps 1 0 (textV v is).cps.size false) 200 (some (quoHit v)) := by
  show Ends (Sre.forSearch cQuo (sfxL v ++ itemsL is).toArray 1 0 (sfxL v ++ itemsL is).toArray.size false) _ _
  rw [List.size_toArray]
  have e := List.all_eq_true.mp quo_hit v (by rcases hv with rfl | rfl | rfl <;> simp)
  have e2 : sfxL v = [61, 34] ++ rawL v ++ [34] := by rcases hv with rfl | rfl | rfl <;> rfl
  rw [e2]
  exact hit_of e _
theorem quo_none {v : PV} (hv : v = .non ∨ v = .xy) (is : List (Bool × Pr)) : ∃ n, n ≤ 9 + 2 * (textV v is).cps.size ∧ Ends (Sre.forSearch cQuo (textV v is).cps 1 0 (textV v is).cps.size false) n none := by
  show ∃ n, n ≤ 9 + 2 * (sfxL v ++ itemsL is).toArray.size ∧ Ends (Sre.forSearch cQuo (sfxL v ++ itemsL is).toArray 1 0 (sfxL v ++ itemsL is).toArray.size false) _ _
  rw [List.size_toArray]
  rcases hv with rfl | rfl
  · rcases items_head is with e | ⟨d, k, r, e, hd, hk⟩
    · rw [show sfxL .non ++ itemsL is = [] by rw [e]; rfl]
      exact ⟨9, by decide, ends_of_N (by decide +kernel)⟩
    · rw [show sfxL .non ++ itemsL is = [d, 32, k] ++ r by rw [e]; rfl]
      refine ⟨_, ?_, miss_of (List.all_eq_true.mp (List.all_eq_true.mp quo_miss1 d (by rcases hd with rfl | rfl <;> simp)) k (by rcases hk with rfl | rfl <;> simp)) r⟩
      omega
  · exact ⟨_, (by show 7 + (2 * (sfxL .xy ++ itemsL is).length + 2) ≤ _; omega), miss_of quo_miss2 (itemsL is)⟩
theorem val_some (is : List (Bool × Pr)) : Ends (Sre.forSearch cVal (textV .xy is).cps 1 0 (textV .xy is).cps.size false) 200 (some valHit) := by
  show Ends (Sre.forSearch cVal (sfxL .xy ++ itemsL is).toArray 1 0 (sfxL .xy ++ itemsL is).toArray.size false) _ _
  rw [List.size_toArray]
  rcases items_head is with e | ⟨d, k, r, e, hd, hk⟩
  · rw [e]
    exact ends_of_B val_end
  · rw [e]
    exact hit_of (List.all_eq_true.mp val_hit d (by rcases hd with rfl | rfl <;> simp)) (32 :: k :: r)
theorem val_none (is : List (Bool × Pr)) : ∃ n, n ≤ 9 + 2 * (textV .non is).cps.size ∧ Ends (Sre.forSearch cVal (textV .non is).cps 1 0 (textV .non is).cps.size false) n none := by
  show ∃ n, n ≤ 9 + 2 * (itemsL is).toArray.size ∧ Ends (Sre.forSearch cVal (itemsL is).toArray 1 0 (itemsL is).toArray.size false) _ _
  rw [List.size_toArray]
  rcases items_head is with e | ⟨d, k, r, e, hd, hk⟩
  · rw [e]
    exact ⟨9, by decide, ends_of_N (by decide +kernel)⟩
  · rw [e]
    refine ⟨_, ?_, miss_of (List.all_eq_true.mp val_miss d (by rcases hd with rfl | rfl <;> simp)) (32 :: k :: r)⟩
    show 4 + (2 * (d :: 32 :: k :: r).length + 2) ≤ _
    omega
/-- the bound of all texts at hand -/
def Fits (is : List (Bool × Pr)) : Prop := (itemsL is).length ≤ 1000000
theorem key_len (b : Bool) : (keyL b).length ≤ 2 := by cases b <;> decide
theorem sfx_len (v : PV) : (sfxL v).length ≤ 11 := by cases v <;> decide
theorem lead_len (b : Bool) : (leadL b).length ≤ 1 := by cases b <;> decide
theorem fitsA {l : Bool} {p : Pr} {is : List (Bool × Pr)} (h : Fits is) : (textA l p is).cps.size ≤ 1000020 := by
  show (leadL l ++ (keyL p.1 ++ (sfxL p.2 ++ itemsL is))).toArray.size ≤ _
  rw [List.size_toArray]
  simp only [List.length_append]
  have := key_len p.1
  have := sfx_len p.2
  have := lead_len l
  unfold Fits at h
  omega
theorem fitsV {v : PV} {is : List (Bool × Pr)} (h : Fits is) : (textV v is).cps.size ≤ 1000020 := by
  show (sfxL v ++ itemsL is).toArray.size ≤ _
  rw [List.size_toArray]
  simp only [List.length_append]
  have := sfx_len v
  unfold Fits at h
  omega
theorem fitsB {is : List (Bool × Pr)} (h : Fits is) : (textB is).cps.size ≤ 1000020 := by
  show (itemsL is).toArray.size ≤ _
  rw [List.size_toArray]
  unfold Fits at h
  omega
theorem fits_tail {c : Bool} {p : Pr} {is : List (Bool × Pr)} (h : Fits ((c, p) :: is)) : Fits is := by
  unfold Fits at h ⊢
  rw [itemsL] at h
  simp only [List.length_cons, List.length_append] at h
  omega
section
variable {prog : Program} {w : World} {A : Around} {E : Value → Shared → Prop} {s : Shared} {pp : Addr} {t : Tok} {is : List (Bool × Pr)} {l k : Bool} {v : PV} {Q : Value → Shared → Prop}
theorem tok_no {c : Bool} {p : Pr} (P : PatAt s.heap pp cTok 1) (hz : Fits ((c, p) :: is)) (h : Q .none s) : wpAny (model prog w) A (call (.builtin "re.Pattern.search") [.ref pp, .str (textB ((c, p) :: is)) t]) Q E s :=
  search_call (r := none) P (by decide) (Nat.lt_of_le_of_lt (fitsB hz) (by decide)) (by unfold Fits at hz; omega) (tok_none (by simp)) (fun y hy => by cases hy) h
theorem quo_no (P : PatAt s.heap pp cQuo 1) (hz : Fits is) (hv : v = .non ∨ v = .xy) (h : Q .none s) : wpAny (model prog w) A (call (.builtin "re.Pattern.search") [.ref pp, .str (textV v is) t]) Q E s := by
  obtain ⟨n, hn, e⟩ := quo_none hv is
  have := fitsV (v := v) hz
  exact search_call (r := none) P (by decide) (by omega) (by omega) e (fun y hy => by cases hy) h
theorem val_no (P : PatAt s.heap pp cVal 1) (hz : Fits is) (h : Q .none s) : wpAny (model prog w) A (call (.builtin "re.Pattern.search") [.ref pp, .str (textV .non is) t]) Q E s := by
  obtain ⟨n, hn, e⟩ := val_none is
  have := fitsV (v := .non) hz
  exact search_call (r := none) P (by decide) (by omega) (by omega) e (fun y hy => by cases hy) h
theorem tok_spans (l k : Bool) : spansOf 1 (tokHit l k) = [rawInt (tokHit l k).start, rawInt (tokHit l k).handed, rawInt ((leadL l).length : Nat), rawInt ((leadL l ++ keyL k).length : Nat)] := by cases l <;> cases k <;> rfl
theorem quo_spans (v : PV) : spansOf 1 (quoHit v) = [rawInt (quoHit v).start, rawInt (quoHit v).handed, rawInt (2 : Nat), rawInt ((rawL v).length + 2 : Nat)] := by cases v <;> rfl
theorem val_spans : spansOf 1 valHit = [rawInt valHit.start, rawInt valHit.handed, rawInt (1 : Nat), rawInt (3 : Nat)] := rfl
theorem cut_list (x y z : List Nat) : (⟨((x ++ (y ++ z)).toArray.extract x.length (x ++ y).length)⟩ : Str) = ⟨y.toArray⟩ := by
  simp
theorem tok_group {a : Addr} (P : MatchAt s.heap a (textA l (k, v) is) 1 (tokHit l k)) (h : ∀ t' tk, s.toks ≤ tk → Q (.str (keyS k) t') { s with toks := tk }) :
    wpAny (model prog w) A (call (.builtin "re.Match.group") [.ref a, .int 1 t]) Q E s := by
  have e : (⟨(textA l (k, v) is).cps.extract (leadL l).length (leadL l ++ keyL k).length⟩ : Str) = keyS k := cut_list (leadL l) (keyL k) (sfxL v ++ itemsL is)
  refine group_call P (tok_spans l k) ?_ ?_
  · have := congrArg (fun x : Str => x.cps.size) e
    rw [show ((textA l (k, v) is).cps.extract (leadL l).length (leadL l ++ keyL k).length).size = (keyS k).cps.size from this, sizeLine_eq]
    cases k <;> decide
  · rw [e]
    exact h _ _ (by omega)
theorem quo_group {a : Addr} (hv : v = .emp ∨ v = .semi ∨ v = .esc) (P : MatchAt s.heap a (textV v is) 1 (quoHit v)) (h : ∀ t' tk, s.toks ≤ tk → Q (.str ⟨(rawL v).toArray⟩ t') { s with toks := tk }) :
    wpAny (model prog w) A (call (.builtin "re.Match.group") [.ref a, .int 1 t]) Q E s := by
  have e : (⟨(textV v is).cps.extract 2 ((rawL v).length + 2)⟩ : Str) = ⟨(rawL v).toArray⟩ := by
    have e2 : sfxL v = [61, 34] ++ (rawL v ++ [34]) := by rcases hv with rfl | rfl | rfl <;> rfl
    unfold textV
    rw [e2]
    have := cut_list [61, 34] (rawL v) ([34] ++ itemsL is)
    simp
  refine group_call P (quo_spans v) ?_ ?_
  · have := congrArg (fun x : Str => x.cps.size) e
    rw [show ((textV v is).cps.extract 2 ((rawL v).length + 2)).size = (rawL v).toArray.size from this, sizeLine_eq]
    cases v <;> decide
  · rw [e]
    exact h _ _ (by omega)
theorem val_group {a : Addr} (P : MatchAt s.heap a (textV .xy is) 1 valHit) (h : ∀ t' tk, s.toks ≤ tk → Q (.str (valS .xy) t') { s with toks := tk }) :
    wpAny (model prog w) A (call (.builtin "re.Match.group") [.ref a, .int 1 t]) Q E s := by
  have e : (⟨(textV .xy is).cps.extract 1 3⟩ : Str) = valS .xy := cut_list [61] [120, 89] (itemsL is)
  refine group_call P val_spans ?_ ?_
  · have := congrArg (fun x : Str => x.cps.size) e
    rw [show ((textV .xy is).cps.extract 1 3).size = (valS .xy).cps.size from this, sizeLine_eq]
    decide
  · rw [e]
    exact h _ _ (by omega)
end
end Mine

set_option Elab.async false
set_option maxRecDepth 100000
set_option maxHeartbeats 400000
namespace Mine
open PySem PySem.Calls PyProof.Rows PySem.W PySem.Builtin.Re
theorem textB_cons (c : Bool) (p : Pr) (is : List (Bool × Pr)) : textB ((c, p) :: is) = ⟨((if c then 44 else 59) :: 32 :: (keyL p.1 ++ (sfxL p.2 ++ itemsL is))).toArray⟩ := rfl
theorem space59 : Unicode.isSpace 59 = false := by decide +kernel
theorem space44 : Unicode.isSpace 44 = false := by decide +kernel
theorem strip_head {d : Nat} (hd : Unicode.isSpace d = false) (r : List Nat) : Txt.lstrip ⟨(d :: r).toArray⟩ = ⟨(d :: r).toArray⟩ := by
  obtain ⟨i, hi, e⟩ := lstrip_is_suffix ⟨(d :: r).toArray⟩
  unfold Txt.lstrip at e ⊢
  rw [PySem.W.stripBy_eq]
  unfold PySem.W.stripped
  have e : ((⟨(d :: r).toArray⟩ : Str).cps.toList.takeWhile Unicode.isSpace).length = 0 := by
    show ((d :: r).takeWhile Unicode.isSpace).length = 0
    rw [List.takeWhile_cons_of_neg (by rw [hd]; decide)]; rfl
  simp only [if_true, Bool.false_eq_true, if_false]
  rw [e]
  exact strSub_whole _
theorem lstrip_B (c : Bool) (p : Pr) (is : List (Bool × Pr)) : Txt.lstrip (textB ((c, p) :: is)) = textB ((c, p) :: is) := by
  rw [textB_cons]
  cases c
  · exact strip_head space59 _
  · exact strip_head space44 _
theorem starts_B (c : Bool) (p : Pr) (is : List (Bool × Pr)) : Txt.startswith (textB ((c, p) :: is)) (Str.ofString ",") = c := by
  rw [textB_cons]
  unfold Txt.startswith
  have e1 : (0 + (Str.ofString ",").length ≤ (⟨((if c then 44 else 59) :: 32 :: (keyL p.1 ++ (sfxL p.2 ++ itemsL is))).toArray⟩ : Str).length) := by
    show 0 + 1 ≤ (List.toArray _).size
    rw [List.size_toArray, List.length_cons]; omega
  rw [decide_eq_true e1, Bool.true_and]
  show ((List.toArray ((if c then 44 else 59) :: 32 :: (keyL p.1 ++ (sfxL p.2 ++ itemsL is)))).extract 0 1 == #[44]) = c
  have e2 : (List.toArray ((if c then 44 else 59) :: 32 :: (keyL p.1 ++ (sfxL p.2 ++ itemsL is)))).extract 0 1 = #[if c then 44 else 59] := by simp
  rw [e2]
  cases c <;> rfl
theorem slice_B (p : Pr) (is : List (Bool × Pr)) : Txt.slice (textB ((true, p) :: is)) (some 1) none = textA true p is := by
  have e2 : Txt.slice (textB ((true, p) :: is)) (some ((1 : Nat) : Int)) none = ⟨(((textB ((true, p) :: is)).cps.toList.drop ((1 : Nat) : Int).toNat).take (((textB ((true, p) :: is)).cps.toList.length : Int) - ((1 : Nat) : Int)).toNat).toArray⟩ :=
    StrLaws.sliceText_from (i := ((1 : Nat) : Int)) ⟨by omega, by show (((1 : Nat) : Int)) ≤ ((List.length (44 :: 32 :: (keyL p.1 ++ (sfxL p.2 ++ itemsL is))) : Nat) : Int); rw [List.length_cons]; omega⟩
  refine Eq.trans e2 ?_
  have e3 : (((textB ((true, p) :: is)).cps.toList.length : Int) - ((1 : Nat) : Int)).toNat = ((textB ((true, p) :: is)).cps.toList.drop 1).length := by rw [List.length_drop]; omega
  rw [e3, Int.toNat_natCast, List.take_length]
  rfl
theorem rstrip_xy : Txt.rstrip (valS .xy) = valS .xy := by decide +kernel
section
variable {prog : Program} {w : World} {A : Around} {E : Value → Shared → Prop} {s : Shared} {t u : Tok} {is : List (Bool × Pr)} {l k c : Bool} {v : PV} {p : Pr} {Q : Value → Shared → Prop}
theorem truthy_A {Q : Bool → Shared → Prop} (hz : Fits is) (h : Q true { s with toks := s.toks + 1 + 1 }) : wpAny (model prog w) A (truthy (.str (textA l p is) t)) Q E s := by
  have e : (textA l p is).length ≤ 1000020 := fitsA hz
  refine PySem.P.truthy_str (by omega) ?_
  have e2 : ((((textA l p is).length : Nat) : Int) != 0) = true := by
    rw [bne_iff_ne]
    have : (textA l p is).length = (leadL l ++ (keyL p.1 ++ (sfxL p.2 ++ itemsL is))).length := List.size_toArray
    rw [this]
    simp only [List.length_append]
    have : 1 ≤ (keyL p.1).length := by cases p.1 <;> decide
    omega
  rw [e2]
  exact h
theorem truthy_B {Q : Bool → Shared → Prop} (hz : Fits ((c, p) :: is)) (h : Q true { s with toks := s.toks + 1 + 1 }) : wpAny (model prog w) A (truthy (.str (textB ((c, p) :: is)) t)) Q E s := by
  have e : (textB ((c, p) :: is)).length ≤ 1000020 := fitsB hz
  refine PySem.P.truthy_str (by omega) ?_
  have e2 : ((((textB ((c, p) :: is)).length : Nat) : Int) != 0) = true := by
    rw [bne_iff_ne]
    have : (textB ((c, p) :: is)).length = (itemsL ((c, p) :: is)).length := List.size_toArray
    rw [this, itemsL, List.length_cons]
    omega
  rw [e2]
  exact h
theorem truthy_B0 {Q : Bool → Shared → Prop} (h : Q false { s with toks := s.toks + 1 + 1 }) : wpAny (model prog w) A (truthy (.str (textB []) t)) Q E s :=
  PySem.P.truthy_str (by decide) h
theorem lstrip_c (hz : Fits ((c, p) :: is)) (h : ∀ t' k, Q (.str (textB ((c, p) :: is)) t') { s with toks := k }) : wpAny (model prog w) A (call (.builtin "str.lstrip") [.str (textB ((c, p) :: is)) t]) Q E s :=
  SC.lstrip (fun t' k => by rw [lstrip_B]; exact h t' k) (by rw [sizeLine_eq]; exact Nat.le_trans (fitsB hz) (by decide))
theorem starts_c (h : Q (.bool c) s) : wpAny (model prog w) A (call (.builtin "str.startswith") [.str (textB ((c, p) :: is)) t, .str (Str.ofString ",") u]) Q E s :=
  SC.startswith (by rw [starts_B]; exact h)
theorem rstrip_c (h : ∀ t' k, Q (.str (valS .xy) t') { s with toks := k }) : wpAny (model prog w) A (call (.builtin "str.rstrip") [.str (valS .xy) t]) Q E s :=
  SC.rstrip (fun t' k => by rw [rstrip_xy]; exact h t' k) (by rw [sizeLine_eq]; decide)
theorem twin_c {pp : Addr} (P : PatAt s.heap pp cTwin 0) (hz : Fits ((false, p) :: is))
    (h : ∀ c h' tk t' t'', Grows s.heap h' → s.heap.get? c = none → h'.get? c = some { cls := .type "tuple", data := .seq #[Value.str (textA false p is) t', Value.int 1 t''] } → Q (.ref c) { s with heap := h', toks := tk }) :
    wpAny (model prog w) A (call (.builtin "re.Pattern.subn") [.ref pp, .str (Str.ofString "") u, .str (textB ((false, p) :: is)) t]) Q E s := by
  have hz2 := fitsB hz
  obtain ⟨b, v⟩ := p
  cases b
  · exact twin_sub (k := 97) (rest := sfxL v ++ itemsL is) P (.inl rfl) (Nat.le_trans hz2 (by decide)) h
  · exact twin_sub (k := 66) (rest := 99 :: (sfxL v ++ itemsL is)) P (.inr rfl) (Nat.le_trans hz2 (by decide)) h
end
section
variable {w : World} {p : Program} {loose : List Str} {mean : ExcName → Option Value} {mg mb : Str → Option Value} {dp un : Nat} {fr : Option (List Env)} {gd : Option (List Code)} {s : Shared} {Q E : Value → Shared → Prop} {mt : Addr} {is : List (Bool × Pr)}
theorem unm_tok {l k : Bool} {v : PV} (X : (hd.heap_39 w.params).In s.heap) (T : Top p loose mean mg mb s.heap) (hd : dp + 1 < recursionLimit) (hu : un + 40 < cLine) (P : MatchAt s.heap mt (textA l (k, v) is) 1 (tokHit l k)) (hz : Fits is)
    (h : ∀ h' tk' t, Grows s.heap h' → Q (.str (textV v is) t) { s with heap := h', toks := tk' }) :
    wpAny (model PySem.Challenge.rw_ik0003_01.row.prog w) (Ar dp fr gd un) (call (.ref 43) [.ref mt]) Q E s := by
  refine unmatched_c X T hd hu P (tok_spans l k) rfl ?_ (Nat.le_trans (fitsA hz) (by decide)) ?_
  · show (leadL l ++ keyL k).length ≤ (leadL l ++ (keyL k ++ (sfxL v ++ itemsL is))).length
    simp only [List.length_append]; omega
  · intro h' tk' t G
    have e : (⟨((textA l (k, v) is).cps.toList.drop (tokHit l k).handed).toArray⟩ : Str) = textV v is := by
      show (⟨((leadL l ++ (keyL k ++ (sfxL v ++ itemsL is))).drop (leadL l ++ keyL k).length).toArray⟩ : Str) = _
      rw [← List.append_assoc, List.drop_left]; rfl
    rw [e]
    exact h h' tk' t G
theorem unm_quo {v : PV} (hv : v = .emp ∨ v = .semi ∨ v = .esc) (X : (hd.heap_39 w.params).In s.heap) (T : Top p loose mean mg mb s.heap) (hd : dp + 1 < recursionLimit) (hu : un + 40 < cLine) (P : MatchAt s.heap mt (textV v is) 1 (quoHit v)) (hz : Fits is)
    (h : ∀ h' tk' t, Grows s.heap h' → Q (.str (textB is) t) { s with heap := h', toks := tk' }) :
    wpAny (model PySem.Challenge.rw_ik0003_01.row.prog w) (Ar dp fr gd un) (call (.ref 43) [.ref mt]) Q E s := by
  have e0 : sfxL v = [61, 34] ++ rawL v ++ [34] := by rcases hv with rfl | rfl | rfl <;> rfl
  have e1 : (sfxL v).length = (rawL v).length + 3 := by rw [e0]; simp
  refine unmatched_c X T hd hu P (quo_spans v) rfl ?_ (Nat.le_trans (fitsV hz) (by decide)) ?_
  · show (rawL v).length + 3 ≤ (sfxL v ++ itemsL is).length
    rw [List.length_append, e1]; omega
  · intro h' tk' t G
    have e : (⟨((textV v is).cps.toList.drop (quoHit v).handed).toArray⟩ : Str) = textB is := by
      show (⟨((sfxL v ++ itemsL is).drop ((rawL v).length + 3)).toArray⟩ : Str) = _
      rw [← e1, List.drop_left]; rfl
    rw [e]
    exact h h' tk' t G
theorem unm_val (X : (hd.heap_39 w.params).In s.heap) (T : Top p loose mean mg mb s.heap) (hd : dp + 1 < recursionLimit) (hu : un + 40 < cLine) (P : MatchAt s.heap mt (textV .xy is) 1 valHit) (hz : Fits is)
    (h : ∀ h' tk' t, Grows s.heap h' → Q (.str (textB is) t) { s with heap := h', toks := tk' }) :
    wpAny (model PySem.Challenge.rw_ik0003_01.row.prog w) (Ar dp fr gd un) (call (.ref 43) [.ref mt]) Q E s := by
  refine unmatched_c X T hd hu P val_spans rfl ?_ (Nat.le_trans (fitsV hz) (by decide)) ?_
  · show 3 ≤ ([61, 120, 89] ++ itemsL is).length
    rw [List.length_append]; simp
  · intro h' tk' t G
    exact h h' tk' t G
end
/-- the plain law of the items -/
def itemsOf (rows : List (List Pr)) : List (Bool × Pr) := rows.flatMap fun r => match r with | [] => [] | p :: r' => (true, p) :: r'.map (fun q => (false, q))
def runI : List (Bool × Pr) → List (List Pr) → List Pr → List (List Pr)
  | [], d, c => d ++ [c]
  | (false, p) :: is, d, c => runI is d (c ++ [p])
  | (true, p) :: is, d, c => runI is (d ++ [c]) [p]
theorem run_semi : ∀ (r : List Pr) (is : List (Bool × Pr)) (d : List (List Pr)) (c : List Pr), runI (r.map (fun q => (false, q)) ++ is) d c = runI is d (c ++ r)
  | [], is, d, c => by rw [List.append_nil]; rfl
  | p :: r, is, d, c => by
    show runI (r.map (fun q => (false, q)) ++ is) d (c ++ [p]) = _
    rw [run_semi r is d (c ++ [p]), List.append_assoc]; rfl
theorem run_items : ∀ (rs : List (List Pr)) (d : List (List Pr)) (c : List Pr), (∀ r ∈ rs, r ≠ []) → runI (itemsOf rs) d c = d ++ c :: rs
  | [], d, c, _ => rfl
  | [] :: rs, d, c, h => absurd rfl (h [] (.head _))
  | (p :: r') :: rs, d, c, h => by
    show runI ((true, p) :: (r'.map (fun q => (false, q)) ++ itemsOf rs)) d c = _
    show runI (r'.map (fun q => (false, q)) ++ itemsOf rs) (d ++ [c]) [p] = _
    rw [run_semi, run_items rs _ _ fun r hr => h r (.tail _ hr), List.append_assoc]
    rfl
theorem glue_fold (g : Array Nat) : ∀ (l : List Str) (a : Array Nat), (l.foldl (fun acc (p : Str) => acc ++ g ++ p.cps) a).toList = a.toList ++ l.flatMap fun p => g.toList ++ p.cps.toList
  | [], a => by simp
  | x :: l, a => by
    rw [List.foldl_cons, glue_fold g l]
    simp [List.append_assoc]
theorem join_list (sep x : Str) (l : List Str) : (Txt.join sep (x :: l)).cps.toList = x.cps.toList ++ l.flatMap fun p => sep.cps.toList ++ p.cps.toList := by
  have e : Txt.join sep (x :: l) = Builtin.Str.glued sep (x :: l) := by
    cases l with
    | nil => rfl
    | cons => rfl
  rw [e]
  exact glue_fold sep.cps l x.cps
theorem rowS_list (p : Pr) (r : List Pr) : (rowS (p :: r)).cps.toList = keyL p.1 ++ (sfxL p.2 ++ itemsL (r.map fun q => (false, q))) := by
  unfold rowS
  rw [List.map_cons, join_list]
  have e : ∀ r : List Pr, (r.map pairS).flatMap (fun p => (Str.ofString "; ").cps.toList ++ p.cps.toList) = itemsL (r.map fun q => (false, q)) := by
    intro r
    induction r with
    | nil => rfl
    | cons q r ih =>
      rw [List.map_cons, List.flatMap_cons, ih, List.map_cons, itemsL]
      show (([59, 32] : List Nat) ++ (keyL q.1 ++ sfxL q.2)) ++ _ = _
      simp
  rw [e]
  show (keyL p.1 ++ sfxL p.2) ++ _ = _
  rw [List.append_assoc]
theorem items_append : ∀ (a b : List (Bool × Pr)), itemsL (a ++ b) = itemsL a ++ itemsL b
  | [], b => rfl
  | (c, p) :: a, b => by
    show (if c then 44 else 59) :: 32 :: (keyL p.1 ++ (sfxL p.2 ++ itemsL (a ++ b))) = _
    rw [items_append a b]
    show _ = ((if c then 44 else 59) :: 32 :: (keyL p.1 ++ (sfxL p.2 ++ itemsL a))) ++ itemsL b
    simp
theorem text_form (rows : List (List Pr)) : textS rows = textB [] ∧ rows.filter (fun r => !r.isEmpty) = [] ∨
    ∃ p r rs, rows.filter (fun r => !r.isEmpty) = (p :: r) :: rs ∧ textS rows = textA false p (r.map (fun q => (false, q)) ++ itemsOf rs) ∧ runI (r.map (fun q => (false, q)) ++ itemsOf rs) [] [p] = rows.filter (fun r => !r.isEmpty) := by
  unfold textS toldS
  have hne : ∀ r ∈ rows.filter (fun r => !r.isEmpty), r ≠ [] := fun r hr e => by
    have := (List.mem_filter.mp hr).2
    rw [e] at this
    cases this
  generalize rows.filter (fun r => !r.isEmpty) = fs at hne
  cases fs with
  | nil => exact .inl ⟨rfl, rfl⟩
  | cons f fs =>
    cases f with
    | nil => exact absurd rfl (hne _ (.head _))
    | cons p r =>
      refine .inr ⟨p, r, fs, rfl, ?_, ?_⟩
      · apply Str.ext'
        apply Array.toList_inj.mp
        rw [List.map_cons, join_list, rowS_list]
        show _ = leadL false ++ (keyL p.1 ++ (sfxL p.2 ++ itemsL (r.map (fun q => (false, q)) ++ itemsOf fs)))
        rw [items_append]
        have e : ∀ fs : List (List Pr), (∀ r ∈ fs, r ≠ []) → (fs.map rowS).flatMap (fun p => (Str.ofString ", ").cps.toList ++ p.cps.toList) = itemsL (itemsOf fs) := by
          intro fs
          induction fs with
          | nil => intro _; rfl
          | cons f fs ih =>
            intro h
            cases f with
            | nil => exact absurd rfl (h _ (.head _))
            | cons q f =>
              rw [List.map_cons, List.flatMap_cons, ih fun r hr => h r (.tail _ hr), rowS_list]
              show _ = itemsL (((true, q) :: f.map (fun q => (false, q))) ++ itemsOf fs)
              rw [items_append]
              show (([44, 32] : List Nat) ++ _) ++ _ = (44 :: 32 :: _) ++ _
              rfl
        rw [e fs fun r hr => hne r (.tail _ hr)]
        show _ = [] ++ _
        simp [List.append_assoc]
      · rw [run_semi, run_items fs _ _ fun r hr => hne r (.tail _ hr)]
        rfl
end Mine

set_option Elab.async false
set_option maxRecDepth 100000
set_option maxHeartbeats 400000
namespace Mine
open PySem PySem.Calls PyProof.Rows PySem.W PySem.Builtin.Re
/-- a match of the ledger, written out -/
def matchO (x : Str) (t : Tok) (p : Addr) (y : Hit) (c : Addr) : Obj := { cls := .type "re.Match", data := .fields #[.str x t, .ref p, rawInt 0, rawInt x.cps.size, rawInt y.lastindex, .ref c] }
def spanO (g : Nat) (y : Hit) : Obj := { cls := .type "tuple", data := .seq (spansOf g y).toArray }
theorem match_of {h₀ h : Heap} {L am ac p : Addr} {news : List (Addr × Obj)} {x : Str} {t : Tok} {y : Hit} {g : Nat} (N : News h₀ L h news) (m1 : (am, matchO x t p y ac) ∈ news) (m2 : (ac, spanO g y) ∈ news) : MatchAt h am x g y :=
  ⟨t, .ref p, rawInt 0, rawInt x.cps.size, rawInt y.lastindex, ac, matchO x t p y ac, 0, spanO g y, (N _ m1).1, rfl, rfl, rfl, (N _ m2).1, rfl⟩
section
variable {prog : Program} {w : World} {A : Around} {E : Value → Shared → Prop} {s : Shared} {h₀ : Heap} {L : Addr} {m : Str → Option Value} {news : List (Addr × Obj)} {pp : Addr} {t : Tok} {is : List (Bool × Pr)} {l k : Bool} {v : PV} {Q : Value → Shared → Prop}
theorem search_K {code : Array Nat} {groups n : Nat} {x : Str} {y : Hit} (F : Fr h₀ L s.heap m) (N : News h₀ L s.heap news) (P : PatAt s.heap pp code groups) (hg : groups ≤ 1) (hx : x.cps.size < 2 ^ 62)
    (hn : n + 1 ≤ 4 * 2 ^ 64) (he : Mine.Ends (Sre.forSearch code x.cps groups 0 x.cps.size false) n (some y)) (hw : wrongSpan groups y = false)
    (h : ∀ a c h', Fr h₀ L h' m → News h₀ L h' ((a, matchO x t pp y c) :: (c, spanO groups y) :: news) → (∀ p ∈ (c, spanO groups y) :: news, p.1 < a) → (∀ p ∈ news, p.1 < c) → Q (.ref a) { s with heap := h' }) :
    wpAny (model prog w) A (call (.builtin "re.Pattern.search") [.ref pp, .str x t]) Q E s := by
  obtain ⟨o, ho, hc, hd⟩ := P.type
  refine wpAny_call_entry slot_search ⟨o, ho, hc⟩ entry_search ?_
  unfold Builtin.«re.Pattern.search»
  refine wpAny_bind (target_is P hx ?_)
  unfold reAnswer
  refine wpAny_bind (runToEnd_is hn he ?_)
  intro m' hm'
  dsimp only
  refine wpAny_bind (newMatch_is hm' hg hw ?_)
  have F1 : Fr h₀ L (s.heap.push (spanO groups y)) m := F.push _
  have N1 : News h₀ L (s.heap.push (spanO groups y)) ((s.heap.objs.size, spanO groups y) :: news) := N.push F _
  refine wpAny_pure ⟨_, rfl, h _ _ _ (F1.push _) (N1.push F1 (matchO x t pp y s.heap.objs.size)) (fun p hp => Heap.lt_size (N1 p hp).1) fun p hp => Heap.lt_size (N p hp).1⟩
theorem tok_yesK (F : Fr h₀ L s.heap m) (N : News h₀ L s.heap news) (P : PatAt s.heap pp cTok 1) (hz : Fits is)
    (h : ∀ a c h', Fr h₀ L h' m → News h₀ L h' ((a, matchO (textA l (k, v) is) t pp (tokHit l k) c) :: (c, spanO 1 (tokHit l k)) :: news) → (∀ p ∈ (c, spanO 1 (tokHit l k)) :: news, p.1 < a) → (∀ p ∈ news, p.1 < c) → Q (.ref a) { s with heap := h' }) :
    wpAny (model prog w) A (call (.builtin "re.Pattern.search") [.ref pp, .str (textA l (k, v) is) t]) Q E s :=
  search_K F N P (by decide) (Nat.lt_of_le_of_lt (fitsA hz) (by decide)) (by decide) (tok_end l k v is) (by cases l <;> cases k <;> rfl) h
theorem quo_yesK (F : Fr h₀ L s.heap m) (N : News h₀ L s.heap news) (P : PatAt s.heap pp cQuo 1) (hz : Fits is) (hv : v = .emp ∨ v = .semi ∨ v = .esc)
    (h : ∀ a c h', Fr h₀ L h' m → News h₀ L h' ((a, matchO (textV v is) t pp (quoHit v) c) :: (c, spanO 1 (quoHit v)) :: news) → (∀ p ∈ (c, spanO 1 (quoHit v)) :: news, p.1 < a) → (∀ p ∈ news, p.1 < c) → Q (.ref a) { s with heap := h' }) :
    wpAny (model prog w) A (call (.builtin "re.Pattern.search") [.ref pp, .str (textV v is) t]) Q E s :=
  search_K F N P (by decide) (Nat.lt_of_le_of_lt (fitsV hz) (by decide)) (by decide) (quo_some hv is) (by rcases hv with rfl | rfl | rfl <;> rfl) h
theorem val_yesK (F : Fr h₀ L s.heap m) (N : News h₀ L s.heap news) (P : PatAt s.heap pp cVal 1) (hz : Fits is)
    (h : ∀ a c h', Fr h₀ L h' m → News h₀ L h' ((a, matchO (textV .xy is) t pp valHit c) :: (c, spanO 1 valHit) :: news) → (∀ p ∈ (c, spanO 1 valHit) :: news, p.1 < a) → (∀ p ∈ news, p.1 < c) → Q (.ref a) { s with heap := h' }) :
    wpAny (model prog w) A (call (.builtin "re.Pattern.search") [.ref pp, .str (textV .xy is) t]) Q E s :=
  search_K F N P (by decide) (Nat.lt_of_le_of_lt (fitsV hz) (by decide)) (by decide) (val_some is) rfl h
end
/-- more of the plain law -/
theorem run_pre : ∀ (is : List (Bool × Pr)) (d e : List (List Pr)) (c : List Pr), runI is (d ++ e) c = d ++ runI is e c
  | [], d, e, c => List.append_assoc ..
  | (false, p) :: is, d, e, c => run_pre is d e (c ++ [p])
  | (true, p) :: is, d, e, c => by
    show runI is ((d ++ e) ++ [c]) [p] = _
    rw [List.append_assoc, run_pre is d (e ++ [c]) [p]]; rfl
theorem items_len : ∀ is : List (Bool × Pr), (itemsL is).length ≤ 15 * is.length
  | [] => Nat.le_refl _
  | (c, p) :: is => by
    have := items_len is
    have := key_len p.1
    have := sfx_len p.2
    rw [itemsL]
    simp only [List.length_cons, List.length_append]
    omega
theorem itemsOf_len : ∀ rs : List (List Pr), (∀ r ∈ rs, r.length ≤ 3) → (itemsOf rs).length ≤ 3 * rs.length
  | [], _ => Nat.le_refl _
  | [] :: rs, h => by
    have := itemsOf_len rs fun r hr => h r (.tail _ hr)
    show (itemsOf rs).length ≤ _
    rw [List.length_cons]; omega
  | (p :: r) :: rs, h => by
    have := itemsOf_len rs fun r hr => h r (.tail _ hr)
    have h3 := h _ (.head _)
    show ((true, p) :: (r.map (fun q => (false, q)) ++ itemsOf rs)).length ≤ _
    rw [List.length_cons] at h3
    simp only [List.length_cons, List.length_append, List.length_map]; omega
/-- where the reading of a text stands -/
def PState (x : Str) (is : List (Bool × Pr)) (d : List (List Pr)) (c : List Pr) (fin : List (List Pr)) (a : Nat) : Prop :=
  (∃ l p, x = textA l p is ∧ runI is d (c ++ [p]) = fin ∧ a = 1) ∨ (x = textB is ∧ a = 0 ∧ ((c ≠ [] ∧ runI is d c = fin) ∨ (c = [] ∧ is = [] ∧ fin = d)))
theorem pstate_start (rows : List (List Pr)) (d : List (List Pr)) (hn : rows.length ≤ 16) (hn3 : ∀ r ∈ rows, r.length ≤ 3) :
    ∃ is a, PState (textS rows) is d [] (d ++ rows.filter fun r => !r.isEmpty) a ∧ Fits is ∧ 2 * is.length + a ≤ 98 := by
  rcases text_form rows with ⟨e1, e2⟩ | ⟨p, r, rs, e1, e2, e3⟩
  · exact ⟨[], 0, .inr ⟨e1, rfl, .inr ⟨rfl, rfl, by rw [e2, List.append_nil]⟩⟩, by show 0 ≤ _; omega, by decide⟩
  · refine ⟨r.map (fun q => (false, q)) ++ itemsOf rs, 1, .inl ⟨false, p, e2, ?_, rfl⟩, ?_, ?_⟩
    · rw [← e3]
      have := run_pre (r.map (fun q => (false, q)) ++ itemsOf rs) d [] [p]
      rw [List.append_nil] at this
      exact this
    all_goals
      have h1 : (rows.filter fun r => !r.isEmpty).length ≤ 16 := Nat.le_trans (List.length_filter_le ..) hn
      have h2 : ∀ r' ∈ (p :: r) :: rs, r'.length ≤ 3 := fun r' hr => hn3 r' (List.mem_filter.mp (e1 ▸ hr)).1
      rw [e1, List.length_cons] at h1
      have h3 := itemsOf_len rs fun r' hr => h2 r' (.tail _ hr)
      have h4 := h2 _ (.head _)
      rw [List.length_cons] at h4
      have h5 : (r.map (fun q => ((false, q) : Bool × Pr)) ++ itemsOf rs).length ≤ 48 := by rw [List.length_append, List.length_map]; omega
    · have := items_len (r.map (fun q => ((false, q) : Bool × Pr)) ++ itemsOf rs)
      unfold Fits
      omega
    · omega
end Mine

set_option Elab.async false
set_option maxRecDepth 100000
set_option maxHeartbeats 4000000
set_option pp.maxSteps 6000
set_option pp.deepTerms false
namespace Mine
open PySem PySem.Calls PyProof.Rows PySem.W PySem.Builtin.Re
theorem room3 {n : Nat} (h : n + 60 < cLine) : n + 3 + 40 < cLine := by omega
abbrev lamQ2 : Str := Str.ofString "split_header_words" ++ Str.ofString ".<locals>." ++ Str.ofString "<lambda>"
theorem wordsSp1 : True := by
  k_with_none
  k_with "callWith builtin:list.append cons nil" => k_dflt (refine callWith_method1 ?_)
  k_with "eval Call Name cons nil" => k_dflt (refine Call_ ?_)
  k_with "eval Call Attribute cons nil" => k_dflt (refine MethodCall_ ?_)
  k_with "call builtin:list.append cons nil" => (k_dflt (refine' append_K ?k1 ?k2 ?k3 ?_ ?z; (case k1 => k_asm); (case k2 => k_asm); (case k3 => k_upd); (case z => assumption); k_whole); intro h'ₖ F'ₖ N'ₖ; (try dsimp only))
  k_with "exec For Name Call cons nil" => k_dflt (refine wpAny_For ?_ ?_)
  k_with "exec For Name Name cons nil" => k_dflt (refine wpAny_For ?_ ?_)
  k_with "exec For Tuple Name cons nil" => k_dflt (refine wpAny_For ?_ ?_)
  trivial
theorem wordsSp2 : True := by
  k_with "exec Assign cons ListComp" => (refine Stop.mk ?_)
  k_with "eval ListComp" => (refine Stop.mk ?_)
  k_with "eval Name" => ((with_reducible show wpAny _ _ (eval (Expr.Name _ _) (compEnvC _ _ _ _)) _ _ _); (rename Fr _ _ _ _ => F'ₖ); k_dflt (refine name_in F'ₖ rfl rfl (by with_unfolding_all rfl) ?_))
  k_with "call builtin:str.replace cons nil" => (k_dflt (first | (refine rep1 ?u ?v ?n ?hv ?_; (case n => ((try dsimp only); omega)); (case u => ((try dsimp only); omega)); (case v => ((try dsimp only); omega)); (case hv => decide)) | (refine rep2 ?u ?v ?n ?hv ?_; (case n => ((try dsimp only); omega)); (case u => ((try dsimp only); omega)); (case v => ((try dsimp only); omega)); (case hv => decide))); intro t'ₖ k'ₖ hk'ₖ; (try dsimp only))
  k_with "callWith builtin:str.replace cons cons nil" => k_dflt (refine callWith_method1 ?_)
  k_with "callWith builtin:str.replace cons nil" => k_dflt (refine callWith_method1 ?_)
  k_with "callWith builtin:str.join cons nil" => k_dflt (refine callWith_method1 ?_)
  k_with "call builtin:str.join cons nil" => ((rename News _ _ _ _ => N'ₖ); k_dflt (refine join_K N'ₖ (List.Mem.head _) (by assumption) ?_); intro t'ₖ k'ₖ; (try dsimp only))
  k_with "callWith builtin:len cons nil" => k_dflt (refine PyProof.Rows.callWith_builtin1 ?_)
  k_with "call builtin:len cons nil" => ((rename Fr _ _ _ _ => F'ₖ); k_dflt (refine len_frozen F'ₖ (by assumption) (by assumption) (by assumption) ?_))
  k_with "subscriptTail List cons Slice ref ref" => ((with_reducible show wpAny _ _ (subscriptTail _ (PySem.Expr.Slice _ _ none _) (Value.ref _) (Value.ref _)) _ _ _); k_dflt (refine kba_turn (value' := PySem.Expr.Name (PySem.Str.ofString "_") ⟨0, 0, 0, 0⟩) (fun _ => rfl) ?_; refine' kmk_slice_lit ?F ?N ?l ?p ?q ?e ?_ ?s ?t ?z; (case F => k_asm); (case N => k_asm); (case l => kmk_list); (case p => kmk_part); (case q => kmk_part); (case e => kl_lit); (case s => with_unfolding_all rfl); (case t => kmk_pure); (case z => kmk_size)); intro D'ₖ h'ₖ F'ₖ N'ₖ l1ₖ; (try k_lt l1ₖ))
  k_with "binaryOp Add ref ref" => ((rename Fr _ _ _ _ => F'ₖ); (rename News _ _ _ _ => N'ₖ); k_dflt (refine' add_K F'ₖ N'ₖ ?a ?b ?z ?_; (case a => k_mem); (case b => k_mem); (case z => assumption)); intro D'ₖ h'ₖ F'ₖ N'ₖ l1ₖ; (try k_lt l1ₖ))
  k_with "getAttr ref" => ((with_reducible show wpAny _ _ (getAttr (Value.ref _) (Str.ofString "__contains__") _) _ _ _); (rename Fr _ _ _ _ => F'ₖ); (rename News _ _ _ _ => N'ₖ); k_dflt (refine contains_attr F'ₖ N'ₖ (F'ₖ.keep _ _ (by assumption)) ?_); intro q'ₖ h'ₖ F'ₖ N'ₖ l1ₖ; (try dsimp only); (try k_lt l1ₖ))
  k_with "callWith builtin:iter cons nil" => k_dflt (refine PyProof.Rows.callWith_builtin1 ?_)
  k_with "call builtin:iter cons nil" => ((rename Fr _ _ _ _ => F'ₖ); (rename News _ _ _ _ => N'ₖ); k_dflt (refine iter_list F'ₖ N'ₖ (F'ₖ.keep _ _ (by assumption)) ?_); intro it'ₖ h'ₖ F'ₖ N'ₖ l1ₖ; (try dsimp only); (try k_lt l1ₖ))
  k_with "getMethod ref" => ((with_reducible show wpAny _ _ (getMethod (Value.ref 75) (Str.ofString "fullmatch") _) _ _ _); (rename Fr _ _ _ _ => F'ₖ); (rename Frag.In _ _ => X'ₖ); k_dflt (refine methP' slot_fullmatch ty_fullmatch (pat75 (X'ₖ.keeps F'ₖ.keep)) ?_))
  k_with "getMethod ref" => ((with_reducible show wpAny _ _ (getMethod (Value.ref 80) (Str.ofString "sub") _) _ _ _); (rename Fr _ _ _ _ => F'ₖ); (rename Frag.In _ _ => X'ₖ); k_dflt (refine methP' slot_sub ty_sub (pat80 (X'ₖ.keeps F'ₖ.keep)) ?_))
  k_with "callWith builtin:re.Pattern.fullmatch cons nil" => k_dflt (refine callWith_method1 ?_)
  k_with "callWith builtin:re.Pattern.sub cons nil" => k_dflt (refine callWith_method1 ?_)
  k_with "call builtin:re.Pattern.fullmatch cons nil" => ((rename Fr _ _ _ _ => F'ₖ); (rename News _ _ _ _ => N'ₖ); (rename Frag.In _ _ => X'ₖ); k_dflt (refine full_xy (pat75 (X'ₖ.keeps F'ₖ.keep)) ?_); intro amₖ hm'ₖ Gmₖ fmₖ Pmₖ; replace F'ₖ := Fr_grows F'ₖ Gmₖ; replace N'ₖ := News_grows N'ₖ Gmₖ; (try dsimp only))
  k_with "call builtin:re.Pattern.fullmatch cons nil" => ((rename Fr _ _ _ _ => F'ₖ); (rename Frag.In _ _ => X'ₖ); k_dflt (refine full_no (pat75 (X'ₖ.keeps F'ₖ.keep)) (by decide) ?_); (try dsimp only))
  k_with "truthy ref" => ((rename MatchAt _ _ _ _ _ => P'ₖ); k_dflt (refine truthy_match P'ₖ ?_); (try dsimp only))
  k_with "convS str" => (k_dflt (refine SB.convS_str (hsz := ?hsz) ?_; (case hsz => first | exact keyS_len _ | exact valS_len _ | exact rawS_len _ | exact quoS_len _)); intro _ _; (try dsimp only))
  k_with "formatField str" => (k_dflt (refine PyProof.Rows.formatField_str (hsz := ?hsz) ?_; (case hsz => first | exact keyS_len _ | exact valS_len _ | exact rawS_len _ | exact quoS_len _)); (try intro _ _); (try dsimp only))
  k_with "le" => (k_dflt (first | (refine Nat.le_trans (m := 1000) ?_ lineBig; decide) | (refine Nat.le_trans (m := 1000) ?_ lineBig; cases ‹PV› <;> first | decide | (cases ‹Bool› <;> decide))))
  k_with "call builtin:re.Pattern.sub cons nil" => ((rename Fr _ _ _ _ => F'ₖ); (rename News _ _ _ _ => N'ₖ); (rename Frag.In _ _ => X'ₖ); (rename Top _ _ _ _ _ _ => T'ₖ); k_dflt (refine je_sub (pat80 (X'ₖ.keeps F'ₖ.keep)) ?ty (lam_ok2 (X'ₖ.keeps F'ₖ.keep) (T'ₖ.keeps F'ₖ.keep) ?dp rfl (N'ₖ _ (List.Mem.head _)).1 ?cr) (by assumption) ?_; (case ty => exact ⟨_, (N'ₖ _ (List.Mem.head _)).1, rfl⟩); (case dp => (rename (_ + 2 < recursionLimit) => hd'; exact Nat.lt_of_succ_lt hd')); (case cr => exact codeRec_news N'ₖ (by k_mem) (by assumption) (by assumption))); intro hs'ₖ tks'ₖ ts'ₖ Gsₖ; replace F'ₖ := Fr_grows F'ₖ Gsₖ; replace N'ₖ := News_grows N'ₖ Gsₖ; (try dsimp only))
  k_with "call builtin:re.Pattern.fullmatch cons nil" => ((rename Fr _ _ _ _ => F'ₖ); (rename Frag.In _ _ => X'ₖ); k_dflt (refine full_no (pat75 (X'ₖ.keeps F'ₖ.keep)) (by assumption) ?_); (try dsimp only))
  k_with "binaryOp Mod str str" => (k_dflt (refine quo_fmt (raw_len _) ?_); intro _ _; (try dsimp only))
  k_with "joinParts" => ((first | (with_reducible show wpAny _ _ (joinParts _ []) _ _ _) | (with_reducible show wpAny _ _ (joinParts _ (evalEach [] _)) _ _ _)); k_dflt (refine PyProof.Rows.joinParts_nil ?_ ?sz; (case sz => (refine Nat.le_trans (m := 1000) ?_ lineBig; first | decide | (cases ‹PV› <;> first | decide | (cases ‹Bool› <;> decide))))))
  k_with "truthy ref" => ((rename News _ _ _ _ => N'ₖ); k_dflt (refine truthy_own N'ₖ (List.Mem.head _) (by assumption) ?_); (try dsimp only))
  k_with "exec While" => (refine Stop.mk ?_)
  k_with "call builtin:isinstance" => ((rename Fr _ _ _ _ => F'ₖ); k_dflt (refine IsiPair.isList_str (by assumption) F'ₖ.keep ?_))
  k_with "getMethod ref" => ((with_reducible show wpAny _ _ (getMethod (Value.ref 48) (Str.ofString "search") _) _ _ _); (rename Fr _ _ _ _ => F'ₖ); (rename Frag.In _ _ => X'ₖ); k_dflt (refine methP' slot_search ty_search (pat48 (X'ₖ.keeps F'ₖ.keep)) ?_))
  k_with "getMethod ref" => ((with_reducible show wpAny _ _ (getMethod (Value.ref 53) (Str.ofString "search") _) _ _ _); (rename Fr _ _ _ _ => F'ₖ); (rename Frag.In _ _ => X'ₖ); k_dflt (refine methP' slot_search ty_search (pat53 (X'ₖ.keeps F'ₖ.keep)) ?_))
  k_with "getMethod ref" => ((with_reducible show wpAny _ _ (getMethod (Value.ref 58) (Str.ofString "search") _) _ _ _); (rename Fr _ _ _ _ => F'ₖ); (rename Frag.In _ _ => X'ₖ); k_dflt (refine methP' slot_search ty_search (pat58 (X'ₖ.keeps F'ₖ.keep)) ?_))
  k_with "getMethod ref" => ((with_reducible show wpAny _ _ (getMethod (Value.ref 63) (Str.ofString "sub") _) _ _ _); (rename Fr _ _ _ _ => F'ₖ); (rename Frag.In _ _ => X'ₖ); k_dflt (refine methP' slot_sub ty_sub (pat63 (X'ₖ.keeps F'ₖ.keep)) ?_))
  k_with "getMethod ref" => ((with_reducible show wpAny _ _ (getMethod (Value.ref 36) (Str.ofString "subn") _) _ _ _); (rename Fr _ _ _ _ => F'ₖ); (rename Frag.In _ _ => X'ₖ); k_dflt (refine methP' slot_subn ty_subn (pat36 (X'ₖ.keeps F'ₖ.keep)) ?_))
  k_with "getMethod ref" => ((with_reducible show wpAny _ _ (getMethod (Value.ref _) (Str.ofString "group") _) _ _ _); (rename News _ _ _ _ => N'ₖ); k_dflt (refine' methM slot_group ty_group (match_of N'ₖ ?m1 ?m2) ?_; (case m1 => k_mem); (case m2 => k_mem)))
  k_with "callWith builtin:re.Pattern.search cons nil" => k_dflt (refine callWith_method1 ?_)
  k_with "callWith builtin:re.Match.group cons nil" => k_dflt (refine callWith_method1 ?_)
  k_with "call builtin:re.Pattern.search cons nil" => ((with_reducible show wpAny _ _ (call _ [Value.ref 48, Value.str (textA _ _ _) _]) _ _ _); (rename Fr _ _ _ _ => F'ₖ); (rename News _ _ _ _ => N'ₖ); (rename Frag.In _ _ => X'ₖ); k_dflt (refine tok_yesK F'ₖ N'ₖ (pat48 (X'ₖ.keeps F'ₖ.keep)) (by assumption) ?_); intro am'ₖ ac'ₖ h'ₖ F'ₖ N'ₖ l1ₖ l2ₖ; (try dsimp only); (try k_lt l2ₖ); (try k_lt l1ₖ))
  k_with "call builtin:re.Pattern.search cons nil" => ((with_reducible show wpAny _ _ (call _ [Value.ref 48, Value.str (textB _) _]) _ _ _); (rename Fr _ _ _ _ => F'ₖ); (rename Frag.In _ _ => X'ₖ); k_dflt (refine tok_no (pat48 (X'ₖ.keeps F'ₖ.keep)) (by assumption) ?_); (try dsimp only))
  k_with "call builtin:re.Pattern.search cons nil" => ((with_reducible show wpAny _ _ (call _ [Value.ref 53, Value.str (textV _ _) _]) _ _ _); (rename Fr _ _ _ _ => F'ₖ); (rename News _ _ _ _ => N'ₖ); (rename Frag.In _ _ => X'ₖ); k_dflt (refine quo_yesK F'ₖ N'ₖ (pat53 (X'ₖ.keeps F'ₖ.keep)) (by assumption) (by assumption) ?_); intro am'ₖ ac'ₖ h'ₖ F'ₖ N'ₖ l1ₖ l2ₖ; (try dsimp only); (try k_lt l2ₖ); (try k_lt l1ₖ))
  k_with "call builtin:re.Pattern.search cons nil" => ((with_reducible show wpAny _ _ (call _ [Value.ref 53, Value.str (textV _ _) _]) _ _ _); (rename Fr _ _ _ _ => F'ₖ); (rename Frag.In _ _ => X'ₖ); k_dflt (refine quo_no (pat53 (X'ₖ.keeps F'ₖ.keep)) (by assumption) (by decide) ?_); (try dsimp only))
  k_with "call builtin:re.Pattern.search cons nil" => ((with_reducible show wpAny _ _ (call _ [Value.ref 58, Value.str (textV PV.xy _) _]) _ _ _); (rename Fr _ _ _ _ => F'ₖ); (rename News _ _ _ _ => N'ₖ); (rename Frag.In _ _ => X'ₖ); k_dflt (refine val_yesK F'ₖ N'ₖ (pat58 (X'ₖ.keeps F'ₖ.keep)) (by assumption) ?_); intro am'ₖ ac'ₖ h'ₖ F'ₖ N'ₖ l1ₖ l2ₖ; (try dsimp only); (try k_lt l2ₖ); (try k_lt l1ₖ))
  k_with "call builtin:re.Pattern.search cons nil" => ((with_reducible show wpAny _ _ (call _ [Value.ref 58, Value.str (textV PV.non _) _]) _ _ _); (rename Fr _ _ _ _ => F'ₖ); (rename Frag.In _ _ => X'ₖ); k_dflt (refine val_no (pat58 (X'ₖ.keeps F'ₖ.keep)) (by assumption) ?_); (try dsimp only))
  k_with "truthy ref" => ((rename News _ _ _ _ => N'ₖ); k_dflt (refine' truthy_match (match_of N'ₖ ?m1 ?m2) ?_; (case m1 => k_mem); (case m2 => k_mem)); (try dsimp only))
  k_with "call builtin:re.Match.group" => ((rename News _ _ _ _ => N'ₖ); k_dflt (first | (refine' tok_group (match_of N'ₖ ?m1 ?m2) ?_; (case m1 => k_mem); (case m2 => k_mem)) | (refine' val_group (match_of N'ₖ ?m1 ?m2) ?_; (case m1 => k_mem); (case m2 => k_mem)) | (refine' quo_group (by assumption) (match_of N'ₖ ?m1 ?m2) ?_; (case m1 => k_mem); (case m2 => k_mem))); intro t'ₖ tk'ₖ htk'ₖ; (try dsimp only))
  k_with "truthy str" => ((with_reducible show wpAny _ _ (truthy (Value.str (textA _ _ _) _)) _ _ _); k_dflt (refine truthy_A (by assumption) ?_); (try dsimp only))
  k_with "truthy str" => ((with_reducible show wpAny _ _ (truthy (Value.str (textB []) _)) _ _ _); k_dflt (refine truthy_B0 ?_); (try dsimp only))
  k_with "truthy str" => ((with_reducible show wpAny _ _ (truthy (Value.str (textB (_ :: _)) _)) _ _ _); k_dflt (refine truthy_B (by assumption) ?_); (try dsimp only))
  k_with "call builtin:str.lstrip" => (k_dflt (refine lstrip_c (by assumption) ?_); intro t'ₖ k'ₖ; (try dsimp only))
  k_with "call builtin:str.startswith" => (k_dflt (refine starts_c ?_); (try dsimp only))
  k_with "call builtin:str.rstrip" => (k_dflt (refine rstrip_c ?_); intro t'ₖ k'ₖ; (try dsimp only))
  k_with "call ref cons nil" => ((with_reducible show wpAny _ _ (call (Value.ref 43) _) _ _ _); (rename Fr _ _ _ _ => F'ₖ); (rename News _ _ _ _ => N'ₖ); (rename Frag.In _ _ => X'ₖ); (rename Top _ _ _ _ _ _ => T'ₖ); k_dflt (first | (refine' unm_tok (X'ₖ.keeps F'ₖ.keep) (T'ₖ.keeps F'ₖ.keep) ?d ?u (match_of N'ₖ ?m1 ?m2) ?z ?_; (case m1 => k_mem); (case m2 => k_mem); (case z => assumption); (case d => (rename (_ + 2 < recursionLimit) => hd'; exact hd')); (case u => (rename (_ + 60 < cLine) => hu'; exact room3 hu'))) | (refine' unm_quo (by assumption) (X'ₖ.keeps F'ₖ.keep) (T'ₖ.keeps F'ₖ.keep) ?d ?u (match_of N'ₖ ?m1 ?m2) ?z ?_; (case m1 => k_mem); (case m2 => k_mem); (case z => assumption); (case d => (rename (_ + 2 < recursionLimit) => hd'; exact hd')); (case u => (rename (_ + 60 < cLine) => hu'; exact room3 hu'))) | (refine' unm_val (X'ₖ.keeps F'ₖ.keep) (T'ₖ.keeps F'ₖ.keep) ?d ?u (match_of N'ₖ ?m1 ?m2) ?z ?_; (case m1 => k_mem); (case m2 => k_mem); (case z => assumption); (case d => (rename (_ + 2 < recursionLimit) => hd'; exact hd')); (case u => (rename (_ + 60 < cLine) => hu'; exact room3 hu')))); intro hs'ₖ tks'ₖ ts'ₖ Gsₖ; replace F'ₖ := Fr_grows F'ₖ Gsₖ; replace N'ₖ := News_grows N'ₖ Gsₖ; (try dsimp only))
  k_with "call builtin:re.Pattern.sub cons nil" => ((rename Fr _ _ _ _ => F'ₖ); (rename News _ _ _ _ => N'ₖ); (rename Frag.In _ _ => X'ₖ); (rename Top _ _ _ _ _ _ => T'ₖ); k_dflt (refine esc_sub (pat63 (X'ₖ.keeps F'ₖ.keep)) ?ty (lam_ok (X'ₖ.keeps F'ₖ.keep) (T'ₖ.keeps F'ₖ.keep) ?dp rfl (N'ₖ _ (List.Mem.head _)).1 ?cr) (by assumption) ?_; (case ty => exact ⟨_, (N'ₖ _ (List.Mem.head _)).1, rfl⟩); (case dp => (rename (_ + 2 < recursionLimit) => hd'; exact Nat.lt_of_succ_lt hd')); (case cr => exact codeRec_news N'ₖ (by k_mem) (by assumption) (by assumption))); intro hs'ₖ tks'ₖ ts'ₖ Gsₖ; replace F'ₖ := Fr_grows F'ₖ Gsₖ; replace N'ₖ := News_grows N'ₖ Gsₖ; (try dsimp only))
  k_with "callWith builtin:re.Pattern.subn cons cons nil" => k_dflt (refine callWith_method1 ?_)
  k_with "callWith builtin:re.Pattern.subn cons nil" => k_dflt (refine callWith_method1 ?_)
  trivial
def SplitJ (ps0 : Array Value) (ext0 : List (Addr × Obj)) (tt : List (List (List Pr))) (res : Addr) (i : Nat) (m : Str → Option Value) (nx : List (Addr × Obj)) : Prop :=
  ∃ (rvs : List Value) (k : Nat) (ps : Array Value) (ext tl : List (Addr × Obj)), nx = (res, W.listOf rvs.toArray k) :: (65, tabObj ps) :: (ext ++ tl) ∧ @Ne Nat res 65 ∧ OwnOff (ext ++ tl) [res, 65] ∧
    DatAll tl rvs (((tt.take i).flatMap fun rows => rows.filter fun r => !r.isEmpty).map rowD) ∧ rvs.length ≤ i * 100 ∧ TabTo 26 49 lamQ2 ps0 ext0 ps ext ∧ m (Str.ofString "result") = some (.ref res)
def WhileJ (ps0 : Array Value) (ext0 : List (Addr × Obj)) (fin : List (List Pr)) (n0 : Nat) (res : Addr) (own : List (Addr × Obj)) (n : Nat) (m : Str → Option Value) (nx : List (Addr × Obj)) : Prop :=
  ∃ (pr : Addr) (x : Str) (t : Tok) (is : List (Bool × Pr)) (dn : List (List Pr)) (cur : List Pr) (rvs : List Value) (kr : Nat) (curvs : List Value) (kc : Nat) (ps : Array Value) (ext tl : List (Addr × Obj)) (a : Nat),
    nx = (pr, W.listOf curvs.toArray kc) :: (res, W.listOf rvs.toArray kr) :: (65, tabObj ps) :: (ext ++ (tl ++ own)) ∧ @Ne Nat pr res ∧ @Ne Nat pr 65 ∧ OwnOff (ext ++ (tl ++ own)) [pr, res, 65] ∧ (∀ q ∈ own, ∀ p ∈ ext ++ tl, p.1 ≠ q.1) ∧
    DatAll tl rvs (dn.map rowD) ∧ DatAll tl curvs (cur.map pairD) ∧ TabTo 26 49 lamQ2 ps0 ext0 ps ext ∧ PState x is dn cur fin a ∧ Fits is ∧ rvs.length + curvs.length + 2 * is.length + a ≤ n0 ∧ n = 2 * is.length + a ∧
    m (Str.ofString "text") = some (.str x t) ∧ m (Str.ofString "pairs") = some (.ref pr) ∧ m (Str.ofString "result") = some (.ref res)
theorem while_end {B : Heap} {L pr res : Addr} {ps0 : Array Value} {ext0 : List (Addr × Obj)} {fin : List (List Pr)} {n0 n a : Nat} {own : List (Addr × Obj)} {x : Str} {t : Tok} {is : List (Bool × Pr)} {dn : List (List Pr)} {cur : List Pr} {rvs : List Value} {kr : Nat} {curvs : List Value} {kc : Nat} {ps : Array Value} {ext tl big : List (Addr × Obj)}
    {s : Shared} {h' : Heap} {tk : Nat} {m' : Str → Option Value} (F : Fr B L h' m') (N : News B L h' big) (b1 : (pr, W.listOf curvs.toArray kc) ∈ big) (b2 : (res, W.listOf rvs.toArray kr) ∈ big) (b3 : (65, tabObj ps) ∈ big) (b4 : ∀ p ∈ ext, p ∈ big) (b5 : ∀ p ∈ tl, p ∈ big) (b6 : ∀ p ∈ own, p ∈ big)
    (e1 : @Ne Nat pr res) (e2 : @Ne Nat pr 65) (o1 : OwnOff ext [pr, res, 65]) (o2 : OwnOff tl [pr, res, 65]) (o3 : OwnOff own [pr, res, 65]) (o4 : ∀ q ∈ own, ∀ p ∈ ext, p.1 ≠ q.1) (o5 : ∀ q ∈ own, ∀ p ∈ tl, p.1 ≠ q.1)
    (d1 : DatAll tl rvs (dn.map rowD)) (d2 : DatAll tl curvs (cur.map pairD)) (ht : TabTo 26 49 lamQ2 ps0 ext0 ps ext) (hp : PState x is dn cur fin a) (hf : Fits is) (hn0 : rvs.length + curvs.length + 2 * is.length + a ≤ n0) (hn : 2 * is.length + a < n)
    (m1 : m' (Str.ofString "text") = some (.str x t)) (m2 : m' (Str.ofString "pairs") = some (.ref pr)) (m3 : m' (Str.ofString "result") = some (.ref res)) :
    TurnEnd B L (fun m nx => ∃ n', n' < n ∧ WhileJ ps0 ext0 fin n0 res own n' m nx) [] s .next { s with heap := h', toks := tk } := by
  refine turn_end ((pr, W.listOf curvs.toArray kc) :: (res, W.listOf rvs.toArray kr) :: (65, tabObj ps) :: (ext ++ (tl ++ own))) F N ?_ (List.forall_mem_nil _) (List.forall_mem_nil _) ⟨2 * is.length + a, hn, pr, x, t, is, dn, cur, rvs, kr, curvs, kc, ps, ext, tl, a, rfl, e1, e2, ?_, ?_, d1, d2, ht, hp, hf, hn0, rfl, m1, m2, m3⟩
  · intro p hp
    rcases List.mem_cons.mp hp with rfl | hp
    · exact b1
    · rcases List.mem_cons.mp hp with rfl | hp
      · exact b2
      · rcases List.mem_cons.mp hp with rfl | hp
        · exact b3
        · rcases List.mem_append.mp hp with hp | hp
          · exact b4 p hp
          · rcases List.mem_append.mp hp with hp | hp
            · exact b5 p hp
            · exact b6 p hp
  · intro p hp
    rcases List.mem_append.mp hp with hp | hp
    · exact o1 p hp
    · rcases List.mem_append.mp hp with hp | hp
      · exact o2 p hp
      · exact o3 p hp
  · intro q hq p hp
    rcases List.mem_append.mp hp with hp | hp
    · exact o4 q hq p hp
    · exact o5 q hq p hp
theorem stepA {B : Heap} {L pr res D : Addr} {ps0 : Array Value} {ext0 : List (Addr × Obj)} {fin : List (List Pr)} {n0 : Nat} {own : List (Addr × Obj)} {xt t1 : Tok} {is : List (Bool × Pr)} {dn : List (List Pr)} {cur : List Pr} {qb : Bool} {qv : PV} {rvs : List Value} {kr : Nat} {curvs : List Value} {kc : Nat} {vv : Value} {ps : Array Value} {ext tl big : List (Addr × Obj)}
    {s : Shared} {h' : Heap} {tk : Nat} {m' : Str → Option Value} (F : Fr B L h' m') (N : News B L h' big) (b0 : (D, ({ cls := Value.type "tuple", data := Data.seq #[Value.str (keyS qb) t1, vv] } : Obj)) ∈ big) (b1 : (pr, W.listOf (curvs.toArray.push (.ref D)) kc) ∈ big) (b2 : (res, W.listOf rvs.toArray kr) ∈ big) (b3 : (65, tabObj ps) ∈ big) (b4 : ∀ p ∈ ext, p ∈ big) (b5 : ∀ p ∈ tl, p ∈ big) (b6 : ∀ p ∈ own, p ∈ big)
    (e1 : @Ne Nat pr res) (e2 : @Ne Nat pr 65) (o1 : OwnOff ext [pr, res, 65]) (o2 : OwnOff tl [pr, res, 65]) (o3 : OwnOff own [pr, res, 65]) (o4 : ∀ q ∈ own, ∀ p ∈ ext, p.1 ≠ q.1) (o5 : ∀ q ∈ own, ∀ p ∈ tl, p.1 ≠ q.1) (q1 : @LT.lt Nat _ pr D) (q2 : @LT.lt Nat _ res D) (q3 : @LT.lt Nat _ 65 D) (q4 : ∀ p ∈ own, @LT.lt Nat _ p.1 D)
    (d1 : DatAll tl rvs (dn.map rowD)) (d2 : DatAll tl curvs (cur.map pairD)) (hv : ∀ nx, DatIn nx vv (pvD qv)) (ht : TabTo 26 49 lamQ2 ps0 ext0 ps ext) (hrun : runI is dn (cur ++ [(qb, qv)]) = fin) (hf : Fits is) (hn0 : rvs.length + curvs.length + 2 * is.length + 1 ≤ n0)
    (m1 : m' (Str.ofString "text") = some (.str (textB is) xt)) (m2 : m' (Str.ofString "pairs") = some (.ref pr)) (m3 : m' (Str.ofString "result") = some (.ref res)) :
    TurnEnd B L (fun m nx => ∃ n', n' < 2 * is.length + 1 ∧ WhileJ ps0 ext0 fin n0 res own n' m nx) [] s .next { s with heap := h', toks := tk } := by
  refine while_end (a := 0) (cur := cur ++ [(qb, qv)]) (curvs := curvs ++ [.ref D]) (kc := kc) (tl := (D, { cls := Value.type "tuple", data := Data.seq #[Value.str (keyS qb) t1, vv] }) :: tl) F N ?_ b2 b3 b4 ?_ b6 e1 e2 o1 ?_ o3 o4 ?_ (DatAll.mono (fun p hp => .tail _ hp) d1) ?_ ht (.inr ⟨rfl, rfl, .inl ⟨by simp, hrun⟩⟩) hf ?_ ?_ m1 m2 m3
  · rw [show (curvs ++ [Value.ref D]).toArray = curvs.toArray.push (Value.ref D) from (List.push_toArray curvs (Value.ref D)).symm]; exact b1
  · exact List.forall_mem_cons.mpr ⟨b0, b5⟩
  · intro p hp
    rcases List.mem_cons.mp hp with rfl | hp
    · intro c hc
      rcases List.mem_cons.mp hc with rfl | hc
      · exact Nat.ne_of_gt q1
      · rcases List.mem_cons.mp hc with rfl | hc
        · exact Nat.ne_of_gt q2
        · rw [List.mem_singleton.mp hc]; exact Nat.ne_of_gt q3
    · exact o2 p hp
  · intro q hq p hp
    rcases List.mem_cons.mp hp with rfl | hp
    · exact Nat.ne_of_gt (q4 q hq)
    · exact o5 q hq p hp
  · rw [List.map_append]
    refine (DatAll.mono (fun p hp => .tail _ hp) d2).append (DatAll.one ?_)
    exact DatIn.tuple (n := 0) (vs := [Value.str (keyS qb) t1, vv]) (.head _) (.cons (.str _ _) (.cons (hv _) .nil))
  · rw [List.length_append, List.length_singleton]; omega
  · omega
theorem truthy_own2 {prog : Program} {w : World} {A : Around} {E : Value → Shared → Prop} {s : Shared} {h₀ : Heap} {L a : Addr} {news : List (Addr × Obj)} {v : Value} {vs : List Value} {k : Nat} {Q : Bool → Shared → Prop} (N : News h₀ L s.heap news) (hm : (a, W.listOf (v :: vs).toArray k) ∈ news) (hz : (v :: vs).length ≤ 100000)
    (h : Q true { s with toks := s.toks + 1 + 1 }) : wpAny (model prog w) A (truthy (.ref a)) Q E s := by
  refine wpAny_truthy_list (items := (v :: vs).toArray) ⟨_, (N _ hm).1, rfl, k, rfl⟩ (by rw [List.size_toArray]; omega) ?_
  exact h
theorem wordsSp3 : True := by
  k_with "truthy ref" => ((rename News _ _ _ _ => N'ₖ); k_dflt (refine' truthy_own2 N'ₖ ?m1 ?z ?_; (case m1 => k_mem); (case z => assumption)); (try dsimp only))
  trivial
theorem off_one {pr res c : Addr} {o : Obj} (c1 : @LT.lt Nat _ pr c) (c2 : @LT.lt Nat _ res c) (c3 : @LT.lt Nat _ 65 c) : OwnOff [(c, o)] [pr, res, 65] := by
  intro p hp d hd
  rw [List.mem_singleton.mp hp]
  rcases List.mem_cons.mp hd with rfl | hd
  · exact Nat.ne_of_gt c1
  · rcases List.mem_cons.mp hd with rfl | hd
    · exact Nat.ne_of_gt c2
    · rw [List.mem_singleton.mp hd]; exact Nat.ne_of_gt c3
theorem val_dat {v : PV} {t : Tok} (hv : v = .emp ∨ v = .semi ∨ v = .esc) (nx : List (Addr × Obj)) : DatIn nx (.str ⟨(valL v).toArray⟩ t) (pvD v) := by
  rcases hv with rfl | rfl | rfl <;> exact .str _ _
theorem off_tail {l : List (Addr × Obj)} {pr res : Addr} (h : OwnOff l [pr, res, 65]) : OwnOff l [res, 65] := fun p hp c hc => h p hp c (.tail _ hc)
theorem split_end {B : Heap} {L res : Addr} {ps0 : Array Value} {ext0 : List (Addr × Obj)} {tt : List (List (List Pr))} {i : Nat} {own : List (Addr × Obj)} {rvs : List Value} {kr : Nat} {ps : Array Value} {ext tl big : List (Addr × Obj)}
    {s : Shared} {h' : Heap} {tk : Nat} {m' : Str → Option Value} (F : Fr B L h' m') (N : News B L h' big) (b2 : (res, W.listOf rvs.toArray kr) ∈ big) (b3 : (65, tabObj ps) ∈ big) (b4 : ∀ p ∈ ext, p ∈ big) (b5 : ∀ p ∈ tl, p ∈ big) (b6 : ∀ p ∈ own, p ∈ big)
    (hne : @Ne Nat res 65) (o1 : OwnOff ext [res, 65]) (o2 : OwnOff tl [res, 65]) (o3 : OwnOff own [res, 65]) (o4 : ∀ q ∈ own, ∀ p ∈ ext, p.1 ≠ q.1) (o5 : ∀ q ∈ own, ∀ p ∈ tl, p.1 ≠ q.1)
    (d1 : DatAll tl rvs (((tt.take (i + 1)).flatMap fun rows => rows.filter fun r => !r.isEmpty).map rowD)) (hl : rvs.length ≤ (i + 1) * 100) (ht : TabTo 26 49 lamQ2 ps0 ext0 ps ext) (m3 : m' (Str.ofString "result") = some (.ref res)) :
    TurnEnd B L (SplitJ ps0 ext0 tt res (i + 1)) own s .next { s with heap := h', toks := tk } := by
  refine turn_end ((res, W.listOf rvs.toArray kr) :: (65, tabObj ps) :: (ext ++ tl)) F N ?_ b6 ?_ ⟨rvs, kr, ps, ext, tl, rfl, hne, ?_, d1, hl, ht, m3⟩
  · intro p hp
    rcases List.mem_cons.mp hp with rfl | hp
    · exact b2
    · rcases List.mem_cons.mp hp with rfl | hp
      · exact b3
      · rcases List.mem_append.mp hp with hp | hp
        · exact b4 p hp
        · exact b5 p hp
  · intro q hq p hp
    rcases List.mem_cons.mp hp with rfl | hp
    · exact (o3 q hq res (.head _)).symm
    · rcases List.mem_cons.mp hp with rfl | hp
      · exact (o3 q hq 65 (.tail _ (.head _))).symm
      · rcases List.mem_append.mp hp with hp | hp
        · exact o4 q hq p hp
        · exact o5 q hq p hp
  · intro p hp
    rcases List.mem_append.mp hp with hp | hp
    · exact o1 p hp
    · exact o2 p hp
theorem push_ref (vs : List Value) (a : Addr) : (vs ++ [Value.ref a]).toArray = vs.toArray.push (Value.ref a) := (List.push_toArray vs (Value.ref a)).symm
theorem off_cons {l : List (Addr × Obj)} {pr res : Addr} {o : Obj} (e1 : @Ne Nat pr res) (e2 : @Ne Nat pr 65) (h : OwnOff l [res, 65]) : OwnOff ((pr, o) :: l) [res, 65] := by
  intro p hp
  rcases List.mem_cons.mp hp with rfl | hp
  · intro c hc
    rcases List.mem_cons.mp hc with rfl | hc
    · exact e1
    · rw [List.mem_singleton.mp hc]; exact e2
  · exact h p hp
theorem twin_K {prog : Program} {w : World} {A : Around} {E : Value → Shared → Prop} {s : Shared} {h₀ : Heap} {L : Addr} {m : Str → Option Value} {news : List (Addr × Obj)} {pp : Addr} {t u : Tok} {is : List (Bool × Pr)} {p : Pr} {Q : Value → Shared → Prop} (F : Fr h₀ L s.heap m) (N : News h₀ L s.heap news) (P : PatAt s.heap pp cTwin 0) (hz : Fits ((false, p) :: is))
    (h : ∀ c h' tk t' t'', Fr h₀ L h' m → News h₀ L h' ((c, ({ cls := .type "tuple", data := .seq #[Value.str (textA false p is) t', Value.int 1 t''] } : Obj)) :: news) → (∀ p ∈ news, p.1 ≠ c) → Q (.ref c) { s with heap := h', toks := tk }) :
    wpAny (model prog w) A (call (.builtin "re.Pattern.subn") [.ref pp, .str (Str.ofString "") u, .str (textB ((false, p) :: is)) t]) Q E s := by
  refine twin_c P hz fun c h' tk t' t'' G hc hc2 => ?_
  obtain ⟨oL, _, _, hoL, _⟩ := id F.ns
  refine h c h' tk t' t'' (Fr_grows F G) (fun p hp => ?_) fun p hp e => ?_
  · rcases List.mem_cons.mp hp with rfl | hp
    · refine ⟨hc2, (fun e => by rw [show c = L from e, hoL] at hc; cases hc), ?_⟩
      show h₀.get? c = none
      cases e : h₀.get? c with
      | none => rfl
      | some o => rw [F.keep _ _ e] at hc; cases hc
    · exact News_grows N G p hp
  · rw [← e, (N p hp).1] at hc
    cases hc
section
variable {w : World} {p : Program} {loose : List Str} {mean : ExcName → Option Value} {mg mb : Str → Option Value} {dp un : Nat} {fr : Option (List Env)} {gd : Option (List Code)} {s : Shared} {Q E : Value → Shared → Prop}
set_option maxHeartbeats 40000000 in
theorem split_c {a : Addr} {g ext0 : List (Addr × Obj)} {ps0 : Array Value} {tt : List (List (List Pr))} (X : (hd.heap_39 w.params).In (hideAll s.heap (65 :: ext0.map (·.1)))) (T : Top p loose mean mg mb (hideAll s.heap (65 :: ext0.map (·.1)))) (C : CodeHd (hideAll s.heap (65 :: ext0.map (·.1))) 69 65) (hd : dp + 2 < recursionLimit) (hu : un + 60 < cLine)
    (ht : s.heap.get? 65 = some (tabObj ps0)) (he : ∀ p ∈ ext0, s.heap.get? p.1 = some p.2) (he2 : ∀ p ∈ ext0, @Ne Nat p.1 65) (hst : TabSt 26 49 lamQ2 ps0 ext0)
    (G : ∀ p ∈ g, (hideAll s.heap (65 :: ext0.map (·.1))).get? p.1 = some p.2) (D : DatIn g (.ref a) (.list (tt.map fun rows => Dat.str (textS rows)))) (hn : tt.length ≤ 16) (hn2 : ∀ rows ∈ tt, rows.length ≤ 16 ∧ ∀ r ∈ rows, r.length ≤ 3)
    (h : ∀ h' tk' b add ps ext, (∀ b o, @Ne Nat b 65 → s.heap.get? b = some o → h'.get? b = some o) → (∀ p ∈ add, h'.get? p.1 = some p.2 ∧ @Ne Nat p.1 65 ∧ (s.heap.get? p.1 = none ∨ ∃ q ∈ ext0, q.1 = p.1)) → DatIn add (.ref b) (rowsD (tt.flatMap fun rows => rows.filter fun r => !r.isEmpty)) →
      h'.get? 65 = some (tabObj ps) → (∀ p ∈ ext, h'.get? p.1 = some p.2) → (∀ p ∈ ext, @Ne Nat p.1 65) → TabSt 26 49 lamQ2 ps ext →
      ((ps = ps0 ∧ ext = ext0) ∨ (ps0 = #[] ∧ ext0 = [] ∧ ∀ p ∈ ext, s.heap.get? p.1 = none)) → Q (.ref b) { s with heap := h', toks := tk' }) :
    wpAny (model PySem.Challenge.rw_ik0003_01.row.prog w) (Ar dp fr gd un) (call (.ref 70) [.ref a]) Q E s := by
  refine wpAny_call ?_
  refine' enter_K (binds := [(Str.ofString "header_values", .ref a)]) ((65, tabObj ps0) :: ext0) ?k0 (fun b o e => of_hideAll _ (X b o e)) (T.nolimit.keeps fun b o e => of_hideAll _ e) ?k6 ?k7 ?k8 ?k9 ?kB ?_ ?c2 ?c3 ?c4 ?c5
  case k6 => k_is
  case k7 => k_is
  case k0 => exact List.forall_mem_cons.mpr ⟨ht, he⟩
  case k8 => (show dp < recursionLimit; omega)
  case k9 => exact BindsTo.of_eq rfl
  case kB => exact locs rfl
  case c2 => exact rfl
  case c3 => exact rfl
  case c4 => exact rfl
  case c5 => decide
  intro L' h₁ F N hlt
  rw [show ((65, tabObj ps0) :: ext0).map (·.1) = 65 :: ext0.map (·.1) from rfl] at F N
  generalize hg : hideAll s.heap (65 :: ext0.map (·.1)) = B at *
  replace F : Fr B L' h₁ (fun y => List.lookup y [(Str.ofString "header_values", .ref a)]) := F
  obtain ⟨a', vs, n, e, hm, hD⟩ := datList D
  cases e
  have hLa : B.IsList a vs.toArray := ⟨_, G _ hm, rfl, n, rfl⟩
  (try dsimp only)
  refine hide_Q fun Qg eQ => ?_
  k_steps
  unfold Stop
  rename Fr _ _ _ _ => F'
  rename News _ _ _ _ => N'
  rename _ ∧ AllLt _ _ => lt0
  obtain ⟨l0, l1⟩ := lt0
  have l2 := allLt_lt l1
  rename_i res _ _
  have hne : @Ne Nat res 65 := Nat.ne_of_gt l0
  refine for_loop (vs := vs) (SplitJ ps0 ext0 tt res) rfl F' N' ⟨[], 0, ps0, ext0, [], by rw [List.append_nil], hne, ?_, .nil, Nat.zero_le _, ⟨hst, .inl ⟨rfl, rfl⟩⟩, rfl⟩ (fun i m nx hh _ F₂ _ => ⟨_, F₂.keep _ _ (G _ hm), rfl, n, rfl⟩) ?_ ?_
  · intro p hp c hc
    rw [List.append_nil] at hp
    rcases List.mem_cons.mp hc with rfl | hc
    · exact Nat.ne_of_lt (l2 p hp)
    · rw [List.mem_singleton.mp hc]; exact he2 p hp
  · rintro i v m₁ nx hh tk own hv ⟨rvs, k, ps, ext, tl, rfl, _, hoff, hdr, hrl, hst, hm1⟩ hown F₂ N₂
    clear F' N'
    rw [m_has hm1] at F₂
    obtain ⟨v', hv', hDv⟩ := hD.get (k := i) (by rw [← hD.length]; exact (List.getElem?_eq_some_iff.mp hv).1)
    rw [hv] at hv'
    cases hv'
    have hit : i < tt.length := by have := (List.getElem?_eq_some_iff.mp hv).1; rw [hD.length, List.length_map] at this; exact this
    rw [List.getElem_map] at hDv
    have hr3 := hn2 tt[i] (List.getElem_mem hit)
    have htk : tt.take (i + 1) = tt.take i ++ [tt[i]] := by rw [List.take_add_one, List.getElem?_eq_getElem hit]; rfl
    generalize tt[i] = rows at hDv hr3 htk
    obtain ⟨vt, rfl⟩ : ∃ vt, v = .str (textS rows) vt := by cases hDv; exact ⟨_, rfl⟩
    replace N₂ : News B L' hh ((res, W.listOf rvs.toArray k) :: (65, tabObj ps) :: ((ext ++ tl) ++ own)) := N₂
    have hoffO : OwnOff ((ext ++ tl) ++ own) [res, 65] := by
      intro p hp c hc
      rcases List.mem_append.mp hp with hp | hp
      · exact hoff p hp c hc
      · rcases List.mem_cons.mp hc with rfl | hc
        · exact fun e => hown p hp _ (.head _) e.symm
        · rw [List.mem_singleton.mp hc]; exact fun e => hown p hp (65, tabObj ps) (.tail _ (.head _)) e.symm
    k_steps
    unfold Stop
    rename Fr _ _ _ _ => F₃
    rename News _ _ _ _ => N₃
    rename _ ∧ _ ∧ AllLt _ _ => lt3
    obtain ⟨l3, l4, l5⟩ := lt3
    have l6 := allLt_lt l5
    rename_i pr0 _ _
    obtain ⟨is0, a0, hps, hfit, hbd⟩ := pstate_start rows ((tt.take i).flatMap fun rows => rows.filter fun r => !r.isEmpty) hr3.1 hr3.2
    have hfin : ((tt.take i).flatMap fun rows => rows.filter fun r => !r.isEmpty) ++ (rows.filter fun r => !r.isEmpty) = (tt.take (i + 1)).flatMap fun rows => rows.filter fun r => !r.isEmpty := by
      rw [htk, List.flatMap_append]; simp
    rw [hfin] at hps
    refine wpAny_While (while_loop (WhileJ ps0 ext0 _ (i * 100 + 98) res own) (n₀ := 2 * is0.length + a0) F₃ N₃ ⟨pr0, _, vt, is0, _, [], rvs, k, [], 0, ps, ext, tl, a0, ?_, Nat.ne_of_gt l3, Nat.ne_of_gt l4, ?_, ?_, hdr, .nil, hst, hps, hfit, ?_, rfl, rfl, rfl, rfl⟩ ?_)
    · rw [List.append_assoc]
    · intro p hp c hc
      rw [← List.append_assoc] at hp
      rcases List.mem_cons.mp hc with rfl | hc
      · exact Nat.ne_of_lt (l6 p hp)
      · exact hoffO p hp c hc
    · exact fun q hq p hp => hown q hq p (.tail _ (.tail _ hp))
    · show rvs.length + 0 + 2 * is0.length + a0 ≤ _; omega
    clear F₃ N₃ l3 l4 l5 l6 hps hfit hbd hst hoff hoffO hdr hrl
    try clear F₂
    rintro n₁ m₂ nx h₄ tk₄ ⟨pr, x, xt, is, dn, cur, rvs, kr, curvs, kc, ps, ext, tl, a₁, rfl, e1, e2, hoff, hdis, d1, d2, hst, hps, hfit, hbd, rfl, hm2, hm3, hm4⟩ F₄ N₄
    rw [m_has hm2, m_has hm3, m_has hm4] at F₄
    have hzr : rvs.toArray.size ≤ sizeLine := by rw [sizeLine_eq, List.size_toArray]; omega
    have hzc : curvs.toArray.size ≤ sizeLine := by rw [sizeLine_eq, List.size_toArray]; omega
    have o1 : OwnOff ext [pr, res, 65] := fun p hp => hoff p (List.mem_append.mpr (.inl hp))
    have o2 : OwnOff tl [pr, res, 65] := fun p hp => hoff p (List.mem_append.mpr (.inr (List.mem_append.mpr (.inl hp))))
    have o3 : OwnOff own [pr, res, 65] := fun p hp => hoff p (List.mem_append.mpr (.inr (List.mem_append.mpr (.inr hp))))
    have o4 : ∀ q ∈ own, ∀ p ∈ ext, p.1 ≠ q.1 := fun q hq p hp => hdis q hq p (List.mem_append.mpr (.inl hp))
    have o5 : ∀ q ∈ own, ∀ p ∈ tl, p.1 ≠ q.1 := fun q hq p hp => hdis q hq p (List.mem_append.mpr (.inr hp))
    rcases hps with ⟨l, ⟨qb, qv⟩, rfl, hrun, rfl⟩ | ⟨rfl, rfl, hps⟩
    · have hv3 : qv = .non ∨ qv = .xy ∨ (qv = .emp ∨ qv = .semi ∨ qv = .esc) := by cases qv <;> simp
      rcases hv3 with rfl | rfl | hv3
      · k_steps
        rename Fr _ _ _ _ => F₆
        rename News _ _ _ _ => N₆
        rename _ ∧ _ ∧ _ ∧ _ ∧ _ ∧ AllLt _ _ => ltc
        obtain ⟨_, _, q1, q2, q3, q4⟩ := ltc
        have q5 := allLt_lt q4
        exact stepA F₆ N₆ (by k_mem) (by k_mem) (by k_mem) (by k_mem) (by intro p hp; ((repeat (refine List.Mem.tail _ ?_)); first | assumption | exact List.mem_append.mpr (.inl (by assumption)) | exact List.mem_append.mpr (.inr (List.mem_append.mpr (.inl (by assumption)))) | exact List.mem_append.mpr (.inr (List.mem_append.mpr (.inr (by assumption)))) | exact List.mem_append.mpr (.inr (by assumption)))) (by intro p hp; ((repeat (refine List.Mem.tail _ ?_)); first | assumption | exact List.mem_append.mpr (.inl (by assumption)) | exact List.mem_append.mpr (.inr (List.mem_append.mpr (.inl (by assumption)))) | exact List.mem_append.mpr (.inr (List.mem_append.mpr (.inr (by assumption)))) | exact List.mem_append.mpr (.inr (by assumption)))) (by intro p hp; ((repeat (refine List.Mem.tail _ ?_)); first | assumption | exact List.mem_append.mpr (.inl (by assumption)) | exact List.mem_append.mpr (.inr (List.mem_append.mpr (.inl (by assumption)))) | exact List.mem_append.mpr (.inr (List.mem_append.mpr (.inr (by assumption)))) | exact List.mem_append.mpr (.inr (by assumption)))) e1 e2 o1 o2 o3 o4 o5 q1 q2 q3 (fun p hp => q5 p (List.mem_append.mpr (.inr (List.mem_append.mpr (.inr hp))))) d1 d2 (fun _ => .none) hst hrun hfit hbd rfl rfl rfl
      · k_steps
        rename Fr _ _ _ _ => F₆
        rename News _ _ _ _ => N₆
        rename _ ∧ _ ∧ _ ∧ _ ∧ _ ∧ _ ∧ _ ∧ AllLt _ _ => ltc
        obtain ⟨_, _, _, _, q1, q2, q3, q4⟩ := ltc
        have q5 := allLt_lt q4
        exact stepA F₆ N₆ (by k_mem) (by k_mem) (by k_mem) (by k_mem) (by intro p hp; ((repeat (refine List.Mem.tail _ ?_)); first | assumption | exact List.mem_append.mpr (.inl (by assumption)) | exact List.mem_append.mpr (.inr (List.mem_append.mpr (.inl (by assumption)))) | exact List.mem_append.mpr (.inr (List.mem_append.mpr (.inr (by assumption)))) | exact List.mem_append.mpr (.inr (by assumption)))) (by intro p hp; ((repeat (refine List.Mem.tail _ ?_)); first | assumption | exact List.mem_append.mpr (.inl (by assumption)) | exact List.mem_append.mpr (.inr (List.mem_append.mpr (.inl (by assumption)))) | exact List.mem_append.mpr (.inr (List.mem_append.mpr (.inr (by assumption)))) | exact List.mem_append.mpr (.inr (by assumption)))) (by intro p hp; ((repeat (refine List.Mem.tail _ ?_)); first | assumption | exact List.mem_append.mpr (.inl (by assumption)) | exact List.mem_append.mpr (.inr (List.mem_append.mpr (.inl (by assumption)))) | exact List.mem_append.mpr (.inr (List.mem_append.mpr (.inr (by assumption)))) | exact List.mem_append.mpr (.inr (by assumption)))) e1 e2 o1 o2 o3 o4 o5 q1 q2 q3 (fun p hp => q5 p (List.mem_append.mpr (.inr (List.mem_append.mpr (.inr hp))))) d1 d2 (fun _ => .str _ _) hst hrun hfit hbd rfl rfl rfl
      · obtain ⟨hst, hsm⟩ := hst
        rcases hst with ⟨rfl, rfl⟩ | ⟨c', oc, cvs, ct, rfl, rfl, hoc1, hoc2⟩
        · simp only [List.nil_append] at N₄ hoff
          k_steps
          rename Fr _ _ _ _ => F₆
          rename News _ _ _ _ => N₆
          rename _ ∧ _ ∧ _ ∧ _ ∧ _ ∧ _ ∧ _ ∧ _ ∧ _ ∧ AllLt _ _ => ltd
          obtain ⟨_, _, _, _, _, _, q1, q2, q3, q4⟩ := ltd
          have q5 := allLt_lt q4
          rename _ ∧ _ ∧ _ ∧ _ ∧ _ ∧ _ ∧ _ ∧ AllLt _ _ => ltc
          obtain ⟨_, _, _, _, c1, c2, c3, c4⟩ := ltc
          have c5 := allLt_lt c4
          rename _ = Data.fields _ => hd1
          rename _ = some (Value.str _ _) => hd2
          exact stepA (ext := [(_, _)]) F₆ N₆ (by k_mem) (by k_mem) (by k_mem) (by k_mem) (fun p hp => by rw [List.mem_singleton.mp hp]; k_mem) (by intro p hp; ((repeat (refine List.Mem.tail _ ?_)); first | assumption | exact List.mem_append.mpr (.inl (by assumption)) | exact List.mem_append.mpr (.inr (List.mem_append.mpr (.inl (by assumption)))) | exact List.mem_append.mpr (.inr (List.mem_append.mpr (.inr (by assumption)))) | exact List.mem_append.mpr (.inr (by assumption)))) (by intro p hp; ((repeat (refine List.Mem.tail _ ?_)); first | assumption | exact List.mem_append.mpr (.inl (by assumption)) | exact List.mem_append.mpr (.inr (List.mem_append.mpr (.inl (by assumption)))) | exact List.mem_append.mpr (.inr (List.mem_append.mpr (.inr (by assumption)))) | exact List.mem_append.mpr (.inr (by assumption)))) e1 e2 (off_one c1 c2 c3) o2 o3 (fun q hq p hp => by rw [List.mem_singleton.mp hp]; exact Nat.ne_of_gt (c5 q (List.mem_append.mpr (.inr hq)))) o5 q1 q2 q3 (fun p hp => q5 p (List.mem_append.mpr (.inr hp))) d1 d2 (val_dat hv3) ⟨.inr ⟨_, _, _, _, rfl, rfl, hd1, hd2⟩, .inr (hsm.elim (fun z => ⟨z.1.symm, z.2.symm⟩) id)⟩ hrun hfit hbd rfl rfl rfl
        · simp only [List.cons_append, List.nil_append] at N₄ hoff
          k_steps
          rename Fr _ _ _ _ => F₆
          rename News _ _ _ _ => N₆
          rename _ ∧ _ ∧ _ ∧ _ ∧ _ ∧ _ ∧ _ ∧ _ ∧ _ ∧ AllLt _ _ => ltd
          obtain ⟨_, _, _, _, _, q1, q2, q3, _, q4⟩ := ltd
          have q5 := allLt_lt q4
          exact stepA (ext := [(c', oc)]) F₆ N₆ (by k_mem) (by k_mem) (by k_mem) (by k_mem) (fun p hp => by rw [List.mem_singleton.mp hp]; k_mem) (by intro p hp; ((repeat (refine List.Mem.tail _ ?_)); first | assumption | exact List.mem_append.mpr (.inl (by assumption)) | exact List.mem_append.mpr (.inr (List.mem_append.mpr (.inl (by assumption)))) | exact List.mem_append.mpr (.inr (List.mem_append.mpr (.inr (by assumption)))) | exact List.mem_append.mpr (.inr (by assumption)))) (by intro p hp; ((repeat (refine List.Mem.tail _ ?_)); first | assumption | exact List.mem_append.mpr (.inl (by assumption)) | exact List.mem_append.mpr (.inr (List.mem_append.mpr (.inl (by assumption)))) | exact List.mem_append.mpr (.inr (List.mem_append.mpr (.inr (by assumption)))) | exact List.mem_append.mpr (.inr (by assumption)))) e1 e2 o1 o2 o3 o4 o5 q1 q2 q3 (fun p hp => q5 p (List.mem_append.mpr (.inr hp))) d1 d2 (val_dat hv3) ⟨.inr ⟨c', oc, cvs, ct, rfl, rfl, hoc1, hoc2⟩, hsm⟩ hrun hfit hbd rfl rfl rfl
    · rcases hps with ⟨hcur, hrun⟩ | ⟨rfl, rfl, hfin⟩
      · obtain ⟨cv, curvs, rfl⟩ : ∃ cv cs, curvs = cv :: cs := by
          cases curvs with
          | nil => have := d2.length; rw [List.length_map] at this; exact absurd (List.eq_nil_of_length_eq_zero this.symm) hcur
          | cons x y => exact ⟨x, y, rfl⟩
        have hcl : (cv :: curvs).length ≤ 100000 := by omega
        have d1' : DatAll ((pr, W.listOf (cv :: curvs).toArray kc) :: tl) (rvs ++ [Value.ref pr]) ((dn ++ [cur]).map rowD) := by
          rw [List.map_append]
          exact (DatAll.mono (fun p hp => .tail _ hp) d1).append (DatAll.one (DatIn.list (.head _) (DatAll.mono (fun p hp => .tail _ hp) d2)))
        have ow : ∀ q ∈ own, ∀ p ∈ (pr, W.listOf (cv :: curvs).toArray kc) :: tl, p.1 ≠ q.1 := by
          intro q hq p hp
          rcases List.mem_cons.mp hp with rfl | hp
          · exact (o3 q hq pr (.head _)).symm
          · exact o5 q hq p hp
        cases is with
        | nil =>
          k_steps
          rename Fr _ _ _ _ => F₆
          rename News _ _ _ _ => N₆
          refine split_end (rvs := rvs ++ [Value.ref pr]) (kr := kr + 1) (tl := (pr, W.listOf (cv :: curvs).toArray kc) :: tl) F₆ N₆ (by rw [push_ref]; k_mem) (by k_mem) (by intro p hp; ((repeat (refine List.Mem.tail _ ?_)); first | assumption | exact List.mem_append.mpr (.inl (by assumption)) | exact List.mem_append.mpr (.inr (List.mem_append.mpr (.inl (by assumption)))) | exact List.mem_append.mpr (.inr (List.mem_append.mpr (.inr (by assumption)))) | exact List.mem_append.mpr (.inr (by assumption)))) (List.forall_mem_cons.mpr ⟨by k_mem, by intro p hp; ((repeat (refine List.Mem.tail _ ?_)); first | assumption | exact List.mem_append.mpr (.inl (by assumption)) | exact List.mem_append.mpr (.inr (List.mem_append.mpr (.inl (by assumption)))) | exact List.mem_append.mpr (.inr (List.mem_append.mpr (.inr (by assumption)))) | exact List.mem_append.mpr (.inr (by assumption)))⟩) (by intro p hp; ((repeat (refine List.Mem.tail _ ?_)); first | assumption | exact List.mem_append.mpr (.inl (by assumption)) | exact List.mem_append.mpr (.inr (List.mem_append.mpr (.inl (by assumption)))) | exact List.mem_append.mpr (.inr (List.mem_append.mpr (.inr (by assumption)))) | exact List.mem_append.mpr (.inr (by assumption)))) hne (off_tail o1) (off_cons e1 e2 (off_tail o2)) (off_tail o3) o4 ow ?_ ?_ hst rfl
          · rw [← hrun]; exact d1'
          · rw [List.length_append, List.length_singleton]; simp only [List.length_cons, List.length_nil] at hbd; omega
        | cons it is =>
          obtain ⟨c, q⟩ := it
          have hfit2 := fits_tail hfit
          simp only [List.length_cons] at hbd
          cases c
          · k_steps
            rename Fr _ _ _ _ => F₆
            rename News _ _ _ _ => N₆
            rename Frag.In _ _ => X'
            refine twin_K F₆ N₆ (pat36 (X'.keeps F₆.keep)) (by assumption) ?_
            clear F₆ N₆
            intro c₇ h₇ tk₇ t1 t2 F₇ N₇ l7
            (try dsimp only)
            k_steps
            rename Fr _ _ _ _ => F₈
            rename News _ _ _ _ => N₈
            exact while_end (a := 1) F₈ N₈ (by k_mem) (by k_mem) (by k_mem) (by intro p hp; ((repeat (refine List.Mem.tail _ ?_)); first | assumption | exact List.mem_append.mpr (.inl (by assumption)) | exact List.mem_append.mpr (.inr (List.mem_append.mpr (.inl (by assumption)))) | exact List.mem_append.mpr (.inr (List.mem_append.mpr (.inr (by assumption)))) | exact List.mem_append.mpr (.inr (by assumption)))) (by intro p hp; ((repeat (refine List.Mem.tail _ ?_)); first | assumption | exact List.mem_append.mpr (.inl (by assumption)) | exact List.mem_append.mpr (.inr (List.mem_append.mpr (.inl (by assumption)))) | exact List.mem_append.mpr (.inr (List.mem_append.mpr (.inr (by assumption)))) | exact List.mem_append.mpr (.inr (by assumption)))) (by intro p hp; ((repeat (refine List.Mem.tail _ ?_)); first | assumption | exact List.mem_append.mpr (.inl (by assumption)) | exact List.mem_append.mpr (.inr (List.mem_append.mpr (.inl (by assumption)))) | exact List.mem_append.mpr (.inr (List.mem_append.mpr (.inr (by assumption)))) | exact List.mem_append.mpr (.inr (by assumption)))) e1 e2 o1 o2 o3 o4 o5 d1 d2 hst (.inl ⟨false, q, rfl, hrun, rfl⟩) hfit2 (by simp only [List.length_cons]; omega) (by simp only [List.length_cons]; omega) rfl rfl rfl
          · k_steps
            rename Fr _ _ _ _ => F₆
            rename News _ _ _ _ => N₆
            refine slice_strN_sn (hsz := ?hsz) (s := ⟨_, _, _, _, _⟩) F₆ N₆ ?_
            case hsz => (rw [sizeLine_eq]; exact Nat.le_trans (fitsB hfit) (by decide))
            clear F₆ N₆
            intro h₇ t₇ tk₇ F₇ N₇
            rw [slice_B]
            (try dsimp only)
            k_steps
            rename Fr _ _ _ _ => F₈
            rename News _ _ _ _ => N₈
            rename _ ∧ _ ∧ _ ∧ AllLt _ _ => ltp
            obtain ⟨g1, g2, g3, g4⟩ := ltp
            have g5 := allLt_lt g4
            refine while_end (a := 1) (dn := dn ++ [cur]) (cur := []) (curvs := []) (rvs := rvs ++ [Value.ref pr]) (kr := kr + 1) (tl := (pr, W.listOf (cv :: curvs).toArray kc) :: tl) F₈ N₈ (by k_mem) (by rw [push_ref]; k_mem) (by k_mem) (by intro p hp; ((repeat (refine List.Mem.tail _ ?_)); first | assumption | exact List.mem_append.mpr (.inl (by assumption)) | exact List.mem_append.mpr (.inr (List.mem_append.mpr (.inl (by assumption)))) | exact List.mem_append.mpr (.inr (List.mem_append.mpr (.inr (by assumption)))) | exact List.mem_append.mpr (.inr (by assumption)))) (List.forall_mem_cons.mpr ⟨by k_mem, by intro p hp; ((repeat (refine List.Mem.tail _ ?_)); first | assumption | exact List.mem_append.mpr (.inl (by assumption)) | exact List.mem_append.mpr (.inr (List.mem_append.mpr (.inl (by assumption)))) | exact List.mem_append.mpr (.inr (List.mem_append.mpr (.inr (by assumption)))) | exact List.mem_append.mpr (.inr (by assumption)))⟩) (by intro p hp; ((repeat (refine List.Mem.tail _ ?_)); first | assumption | exact List.mem_append.mpr (.inl (by assumption)) | exact List.mem_append.mpr (.inr (List.mem_append.mpr (.inl (by assumption)))) | exact List.mem_append.mpr (.inr (List.mem_append.mpr (.inr (by assumption)))) | exact List.mem_append.mpr (.inr (by assumption)))) (Nat.ne_of_gt g2) (Nat.ne_of_gt g3) ?_ ?_ ?_ o4 ow d1' .nil hst (.inl ⟨true, q, rfl, hrun, rfl⟩) hfit2 ?_ ?_ rfl rfl rfl
            · intro p hp d hd
              rcases List.mem_cons.mp hd with rfl | hd
              · exact Nat.ne_of_lt (g5 p (List.mem_append.mpr (.inl hp)))
              · exact off_tail o1 p hp d hd
            · intro p hp d hd
              rcases List.mem_cons.mp hd with rfl | hd
              · rcases List.mem_cons.mp hp with rfl | hp
                · exact Nat.ne_of_lt g1
                · exact Nat.ne_of_lt (g5 p (List.mem_append.mpr (.inr (List.mem_append.mpr (.inl hp)))))
              · exact off_cons e1 e2 (off_tail o2) p hp d hd
            · intro p hp d hd
              rcases List.mem_cons.mp hd with rfl | hd
              · exact Nat.ne_of_lt (g5 p (List.mem_append.mpr (.inr (List.mem_append.mpr (.inr hp)))))
              · exact off_tail o3 p hp d hd
            · rw [List.length_append, List.length_singleton]; simp only [List.length_nil]; omega
            · simp only [List.length_cons]; omega
      · obtain rfl : curvs = [] := List.eq_nil_of_length_eq_zero d2.length
        k_steps
        rename Fr _ _ _ _ => F₆
        rename News _ _ _ _ => N₆
        refine split_end F₆ N₆ (by k_mem) (by k_mem) (by intro p hp; ((repeat (refine List.Mem.tail _ ?_)); first | assumption | exact List.mem_append.mpr (.inl (by assumption)) | exact List.mem_append.mpr (.inr (List.mem_append.mpr (.inl (by assumption)))) | exact List.mem_append.mpr (.inr (List.mem_append.mpr (.inr (by assumption)))) | exact List.mem_append.mpr (.inr (by assumption)))) (by intro p hp; ((repeat (refine List.Mem.tail _ ?_)); first | assumption | exact List.mem_append.mpr (.inl (by assumption)) | exact List.mem_append.mpr (.inr (List.mem_append.mpr (.inl (by assumption)))) | exact List.mem_append.mpr (.inr (List.mem_append.mpr (.inr (by assumption)))) | exact List.mem_append.mpr (.inr (by assumption)))) (by intro p hp; ((repeat (refine List.Mem.tail _ ?_)); first | assumption | exact List.mem_append.mpr (.inl (by assumption)) | exact List.mem_append.mpr (.inr (List.mem_append.mpr (.inl (by assumption)))) | exact List.mem_append.mpr (.inr (List.mem_append.mpr (.inr (by assumption)))) | exact List.mem_append.mpr (.inr (by assumption)))) hne (off_tail o1) (off_tail o2) (off_tail o3) o4 o5 ?_ ?_ hst rfl
        · rw [hfin]; exact d1
        · simp only [List.length_nil] at hbd; omega
  · rintro m₁ nx hh tk ⟨rvs, k, ps, ext, tl, rfl, _, hoff, hdr, hrl, hst, hm1⟩ F₂ N₂
    clear F' N'
    rw [m_has hm1] at F₂
    rw [hD.length, List.length_map, List.take_length] at hdr
    k_steps
    subst eQ
    (try dsimp only)
    rename Fr _ _ _ _ => F₉
    rename News _ _ _ _ => N₉
    refine h _ _ _ ((res, W.listOf rvs.toArray k) :: tl) ps ext ?_ ?_ (DatIn.list (.head _) (DatAll.mono (fun p hp => .tail _ hp) hdr)) (N₉ _ (.tail _ (.head _))).1 (fun p hp => (N₉ p (.tail _ (.tail _ (List.mem_append.mpr (.inl hp))))).1) (fun p hp => hoff p (List.mem_append.mpr (.inl hp)) 65 (.tail _ (.head _))) hst.1 ?_
    · intro b o hb e
      by_cases hbe : b ∈ ext0.map (·.1)
      · obtain ⟨q, hq, rfl⟩ := List.mem_map.mp hbe
        rw [he q hq] at e
        cases e
        rcases hst.2 with ⟨_, rfl⟩ | ⟨_, rfl⟩
        · exact (N₉ q (.tail _ (.tail _ (List.mem_append.mpr (.inl hq))))).1
        · cases hq
      · refine F₉.keep b o ?_
        rw [← hg]
        refine hideAll_get _ e ?_
        intro hb2
        rcases List.mem_cons.mp hb2 with rfl | hb2
        · exact hb rfl
        · exact hbe hb2
    · have key : ∀ p : Addr × Obj, @Ne Nat p.1 65 → B.get? p.1 = none → (s.heap.get? p.1 = none ∨ ∃ q ∈ ext0, q.1 = p.1) := by
        intro p hp hz
        cases e : s.heap.get? p.1 with
        | none => exact .inl rfl
        | some o =>
          refine .inr ?_
          by_cases hbe : p.1 ∈ ext0.map (·.1)
          · obtain ⟨q, hq, hqe⟩ := List.mem_map.mp hbe
            exact ⟨q, hq, hqe⟩
          · rw [← hg, hideAll_get _ e (fun hb2 => by rcases List.mem_cons.mp hb2 with hb2 | hb2; exact hp hb2; exact hbe hb2)] at hz
            cases hz
      intro p hp
      rcases List.mem_cons.mp hp with rfl | hp
      · have := N₉ _ (.head _)
        exact ⟨this.1, hne, key _ hne this.2.2⟩
      · have := N₉ p (.tail _ (.tail _ (List.mem_append.mpr (.inr hp))))
        have h65 : @Ne Nat p.1 65 := hoff p (List.mem_append.mpr (.inr hp)) 65 (.tail _ (.head _))
        exact ⟨this.1, h65, key _ h65 this.2.2⟩
    · rcases hst.2 with hst2 | ⟨q1, q2⟩
      · exact .inl hst2
      · refine .inr ⟨q1, q2, fun p hp => ?_⟩
        have hz := (N₉ p (.tail _ (.tail _ (List.mem_append.mpr (.inl hp))))).2.2
        rw [← hg, q2] at hz
        replace hz : (hideAll s.heap [65]).get? p.1 = none := hz
        cases e : s.heap.get? p.1 with
        | none => rfl
        | some o =>
          rw [hideAll_get _ e (fun hb2 => hoff p (List.mem_append.mpr (.inl hp)) 65 (.tail _ (.head _)) (List.mem_singleton.mp hb2))] at hz
          cases hz
end
end Mine

set_option Elab.async false
set_option maxRecDepth 100000
set_option maxHeartbeats 4000000
set_option pp.maxSteps 6000
set_option pp.deepTerms false
namespace Mine
open PySem PySem.Calls PyProof.Rows PySem.W PySem.Builtin.Re
section
variable {prog : Program} {w : World} {A : Around} {E : Value → Shared → Prop} {s : Shared}
theorem next_item {it l : Addr} {i : Nat} {items : Array Value} {x : Value} {Q : Value → Shared → Prop} (ho : s.heap.get? it = some (itOf l i)) (hl : s.heap.IsList l items) (hx : items[i]? = some x)
    (hQ : ∀ h', h'.get? it = some (itOf l (i + 1)) → Heap.SameBut it s.heap h' → Q x { s with heap := h' }) : wpAny (model prog w) A (call (.builtin "next") [.ref it]) Q E s := by
  have hit : s.heap.IsListIter it l i := ⟨_, ho, rfl, rfl⟩
  have hd : (itOf l i).data = .fields #[.ref l, .int i 0] := rfl
  refine call_function_entry (by decide +kernel) (by decide +kernel) kdk_entry_next (kdk_args_next _) ?_
  unfold Builtin.«next»
  refine wpAny_bind (m := someArgs "next" 1 2 _) (wpAny_of_eq (a := [Value.ref it]) (by first | rfl | kernel_rfl!) ?_)
  dsimp only
  refine wpAny_bind (wpAny_specialOf (name := Str.ofString "__next__") hit.typeIs slot_listiter_next.lookup ?_)
  refine wpAny_ite_split (fun hab => absurd hab (by decide)) (fun _ => ?_)
  obtain ⟨ol, hol, _, nl, hdl⟩ := hl
  refine wpAny_bind (wpAny_callSpecial?_slot (name := Str.ofString "__next__") hit.typeIs slot_listiter_next
    (wpAny_call_entry slot_listiter_next hit.typeIs entry_listiter_next ?_ (args_listiter_next _)))
  show wpAny _ _ (field (.ref it) 0 >>= _) _ _ s
  refine wpAny_bind (wpAny_field ho hd (x := .ref l) rfl ?_)
  show wpAny _ _ (if (Value.ref l == Value.none) = true then _ else _) _ _ s
  rw [if_neg (show ¬ ((Value.ref l == Value.none) = true) from Bool.false_ne_true)]
  show wpAny _ _ (field (.ref it) 1 >>= _) _ _ s
  refine wpAny_bind (wpAny_field ho hd (x := .int i 0) rfl ?_)
  show wpAny _ _ (seqItems? (.ref l) >>= _) _ _ s
  refine wpAny_bind (wpAny_seqItems hol hdl ?_)
  simp only [Int.toNat_natCast, hx]
  refine wpAny_bind (wpAny_setField ho hd (by simp) (wpAny_pure ⟨x, rfl, wpAny_pure ⟨x, rfl, hQ _ ?_ (Heap.SameBut.update ..)⟩⟩))
  exact Heap.get?_update_self _ ho (Obj.isFreed_of_fields (Obj.data_mapFields hd _))
theorem next_end {it l : Addr} {i : Nat} {items : Array Value} {Q : Value → Shared → Prop} (hh : A.handled = none) (hit : s.heap.IsListIter it l i) (hl : s.heap.IsList l items) (hx : items[i]? = none)
    (hQ : ∀ h₁ h' e, Heap.SameBut it s.heap h₁ → Heap.MadeExcOf h₁ h' e (.type "StopIteration") [] → E (.ref e) { s with heap := h' }) : wpAny (model prog w) A (call (.builtin "next") [.ref it]) Q E s := by
  refine call_function_entry (by decide +kernel) (by decide +kernel) kdk_entry_next (kdk_args_next _) ?_
  unfold Builtin.«next»
  refine wpAny_bind (m := someArgs "next" 1 2 _) (wpAny_of_eq (a := [Value.ref it]) (by first | rfl | kernel_rfl!) ?_)
  dsimp only
  refine wpAny_bind (wpAny_specialOf (name := Str.ofString "__next__") hit.typeIs slot_listiter_next.lookup ?_)
  refine wpAny_ite_split (fun hab => absurd hab (by decide)) (fun _ => ?_)
  obtain ⟨o, ho, hc, hd⟩ := id hit
  obtain ⟨ol, hol, _, nl, hdl⟩ := hl
  refine wpAny_bind (wpAny_callSpecial?_slot (name := Str.ofString "__next__") hit.typeIs slot_listiter_next
    (wpAny_call_entry slot_listiter_next hit.typeIs entry_listiter_next ?_ (args_listiter_next _)))
  show wpAny _ _ (field (.ref it) 0 >>= _) _ _ s
  refine wpAny_bind (wpAny_field ho hd (x := .ref l) rfl ?_)
  show wpAny _ _ (if (Value.ref l == Value.none) = true then _ else _) _ _ s
  rw [if_neg (show ¬ ((Value.ref l == Value.none) = true) from Bool.false_ne_true)]
  show wpAny _ _ (field (.ref it) 1 >>= _) _ _ s
  refine wpAny_bind (wpAny_field ho hd (x := .int i 0) rfl ?_)
  show wpAny _ _ (seqItems? (.ref l) >>= _) _ _ s
  refine wpAny_bind (wpAny_seqItems hol hdl ?_)
  simp only [Int.toNat_natCast, hx]
  refine wpAny_bind (wpAny_rule (wpAny_bind (wpAny_setField ho hd (by simp) ?_)))
  show wpAny _ _ (newExc (.type "StopIteration") [] >>= _) _ _ _
  refine wpAny_bind ?_
  simp only [newExc, newTuple]
  refine wpAny_bind (wpAny_newObj_type ?_ (by size_fits))
  refine wpAny_bind (m := firstArgMember _ _) (wpAny_of_eq (a := Value.none) (by first | rfl | (simp only [firstArgMember]; rfl)) ?_)
  refine wpAny_newObj_type ?_ (by size_fits)
  simp only [raiseNew]
  refine wpAny_bind (wpAny_handled ?_)
  rw [show A.in1.in1.handled = none from hh]
  refine wpAny_bind (wpAny_pure (wpAny_throw ?_))
  refine hQ (s.heap.update it (Obj.mapFields (·.setIfInBounds 0 Value.none))) _ _ (Heap.SameBut.update ..) ⟨fun b o' e => Heap.get?_push_of_some _ (Heap.get?_push_of_some _ e), ?_, (s.heap.update it (Obj.mapFields (·.setIfInBounds 0 Value.none))).objs.size, Heap.get?_push_size _ rfl, Heap.get?_none_of_le (Nat.le_refl _), Heap.get?_push_of_some _ (Heap.get?_push_size _ rfl)⟩
  rw [Heap.size_push]
  exact Heap.get?_none_of_le (Nat.le_succ _)
theorem off_head {rest : List (Addr × Obj)} {it : Addr} {h₀ : Heap} {L : Addr} {h h' : Heap} {o : Obj} (N : News h₀ L h ((it, o) :: rest)) (ho : OwnOff rest [it]) (hs : Heap.SameBut it h h') : News h₀ L h' rest := fun p hp =>
  ⟨hs.extBut _ _ (ho p hp it (.head _)) (N p (.tail _ hp)).1, (N p (.tail _ hp)).2⟩
theorem next_itemK {h₀ : Heap} {L it a : Addr} {m : Str → Option Value} {rest : List (Addr × Obj)} {i n : Nat} {vs : List Value} {x : Value} {Q : Value → Shared → Prop} (F : Fr h₀ L s.heap m) (N : News h₀ L s.heap ((it, itOf a i) :: rest)) (ho : OwnOff rest [it]) (ha : h₀.get? a = some (W.listOf vs.toArray n)) (hx : vs[i]? = some x)
    (h : ∀ h', Fr h₀ L h' m → News h₀ L h' ((it, itOf a (i + 1)) :: rest) → Q x { s with heap := h' }) : wpAny (model prog w) A (call (.builtin "next") [.ref it]) Q E s := by
  have z := N _ (.head _)
  refine next_item (items := vs.toArray) z.1 ⟨_, F.keep _ _ ha, rfl, n, rfl⟩ (by simpa using hx) fun h' h1 hs => h h' (F.change hs z.2.1 z.2.2) fun p hp => ?_
  rcases List.mem_cons.mp hp with rfl | hp
  · exact ⟨h1, z.2⟩
  · exact off_head N ho hs p hp
theorem next_endK {h₀ : Heap} {L it a : Addr} {m : Str → Option Value} {rest : List (Addr × Obj)} {i n : Nat} {vs : List Value} {Q : Value → Shared → Prop} (hh : A.handled = none) (F : Fr h₀ L s.heap m) (N : News h₀ L s.heap ((it, itOf a i) :: rest)) (ho : OwnOff rest [it]) (ha : h₀.get? a = some (W.listOf vs.toArray n)) (hx : vs[i]? = none)
    (h : ∀ h₁ h' e, Fr h₀ L h₁ m → News h₀ L h₁ rest → Heap.MadeExcOf h₁ h' e (.type "StopIteration") [] → E (.ref e) { s with heap := h' }) : wpAny (model prog w) A (call (.builtin "next") [.ref it]) Q E s := by
  have z := N _ (.head _)
  exact next_end (items := vs.toArray) hh ⟨_, z.1, rfl, rfl⟩ ⟨_, F.keep _ _ ha, rfl, n, rfl⟩ (by simpa using hx) fun h₁ h' e hs hm => h h₁ h' e (F.change hs z.2.1 z.2.2) (off_head N ho hs) hm
end
/-- a while that a return or an exception leaves -/
theorem while_e {prog : Program} {w : World} {A : Around} {E : Value → Shared → Prop} {s : Shared} {env : Env} {test : PySem.Expr} {body : List Stmt} {pos : Pos} {Q : Flow → Shared → Prop} (I : Nat → Shared → Prop) (hE : PassesOwn (model prog w) A env E)
    (turn : ∀ n s', I n s' → wpAny (model prog w) A (isTrue test env (eval test env)) (fun b s₂ => if b = true then wpAny (model prog w) A (execs body env) (fun f s₃ => match f with
      | .next => Stop (∃ m, m < n ∧ I m s₃)
      | .cont => Stop (∃ m, m < n ∧ I m s₃)
      | .brk => Q .next s₃
      | .ret v => Q (.ret v) s₃) E s₂ else Q .next s₂) E s') (n : Nat) (h : I n s) : wpAny (model prog w) A (exec (.While test body [] pos) env) Q E s := by
  refine whl_start 0 ?_
  induction n using Nat.strongRecOn generalizing s with
  | _ n ih =>
    refine whl_turn (k := 0) hE (wpAny_mono (turn n s h) (fun b s₂ h₂ => ?_) fun _ _ z => z)
    unfold WhlIf
    cases b with
    | false =>
      simp only [Bool.false_eq_true, if_false] at h₂ ⊢
      exact wpAny_execs_nil h₂
    | true =>
      simp only [if_true] at h₂ ⊢
      refine wpAny_mono h₂ (fun f s₃ h₃ => ?_) fun _ _ z => z
      cases f with
      | next => obtain ⟨m, hm, hI⟩ := h₃; exact ih m hm hI
      | cont => obtain ⟨m, hm, hI⟩ := h₃; exact ih m hm hI
      | brk => exact h₃
      | ret v => exact h₃
open Classical in
theorem wrap_yes {prog : Program} {w : World} {A : Around} {E : Value → Shared → Prop} {s : Shared} {q l : Addr} {g : List (Addr × Obj)} {xs : List Value} {k : Nat} {ds : List Dat} {x : Value} {d : Dat} {Q : Value → Shared → Prop} (G : ∀ p ∈ g, s.heap.get? p.1 = some p.2) (ho : s.heap.get? q = some (wrapOf l)) (ma : (l, W.listOf xs.toArray k) ∈ g) (Da : DatAll g xs ds)
    (Dx : DatIn g x d) (ha : ∀ d ∈ ds, kqdOk 8 d = true) (hd : kqdOk 8 d = true) (hu : A.units + 64 < cLine) (hm : d ∈ ds) (h : Q (.bool true) s) : wpAny (model prog w) A (call (.ref q) [x]) Q E s :=
  wrap_in G ho ma Da Dx ha hd hu (by rw [decide_eq_true hm]; exact h)
open Classical in
theorem wrap_no {prog : Program} {w : World} {A : Around} {E : Value → Shared → Prop} {s : Shared} {q l : Addr} {g : List (Addr × Obj)} {xs : List Value} {k : Nat} {ds : List Dat} {x : Value} {d : Dat} {Q : Value → Shared → Prop} (G : ∀ p ∈ g, s.heap.get? p.1 = some p.2) (ho : s.heap.get? q = some (wrapOf l)) (ma : (l, W.listOf xs.toArray k) ∈ g) (Da : DatAll g xs ds)
    (Dx : DatIn g x d) (ha : ∀ d ∈ ds, kqdOk 8 d = true) (hd : kqdOk 8 d = true) (hu : A.units + 64 < cLine) (hm : d ∉ ds) (h : Q (.bool false) s) : wpAny (model prog w) A (call (.ref q) [x]) Q E s :=
  wrap_in G ho ma Da Dx ha hd hu (by rw [decide_eq_false hm]; exact h)
theorem units100 {n : Nat} (h : n + 100 < cLine) : n + 3 + 64 < cLine := by omega

def WrapAt (u : Addr) (h : Heap) : Prop := ∃ l, h.get? u = some (wrapOf l)
theorem callWith_wrapF {M : Model} {A : Around} {E : Value → Shared → Prop} {s : Shared} {pos : Pos} {u : Addr} {first : List Value} {args : List (Bool × Sem Value)} {Q : Value → Shared → Prop} (hplain : args.any (·.1) = false)
    (h : wpAny M A (evalArgs (.ref u) true args []) (fun x s₁ => WrapAt u s₁.heap ∧ wpAny M A (call (.ref u) (first ++ x.pos) x.kw) Q E s₁) E s) : wpAny M A (callWith pos (.ref u) first args []) Q E s := by
  unfold callWith
  refine wpAny_bind (wpAny_holding (wpAny_mono h (fun x s₁ h₁ => wpAny_bind (wpAny_standAt ?_)) fun _ _ x => x))
  obtain ⟨⟨l, ho⟩, hcall⟩ := h₁
  simp only [hplain, List.any_nil, Bool.or_false]
  refine wpAny_bind (m := keeperOf (.ref u)) ?_
  unfold keeperOf
  refine wpAny_bind (wpAny_load ho ?_)
  simp only [show (Value.type "method-wrapper" != Value.type "method") = true by decide, show (Value.type "method-wrapper" == Value.type "builtin_function_or_method" || Value.type "method-wrapper" == Value.type "method-wrapper") = true by decide, if_true]
  refine wpAny_pure ?_
  exact wpAny_bind (wpAny_mono hcall (fun r s₂ hr => wpAny_bind (wpAny_holding (wpAny_point (wpAny_pure hr)))) fun _ _ x => x)
theorem callWith_wrap {M : Model} {A : Around} {E : Value → Shared → Prop} {s : Shared} {pos : Pos} {u : Addr} {env : Env} {e : Expr} {rest : List Expr} {Q : Value → Shared → Prop}
    (h : wpAny M A (spliced (backTo pos (starEach (e :: rest) env))) (fun vs s₁ => WrapAt u s₁.heap ∧ wpAny M A (call (.ref u) ([] ++ vs)) Q E s₁) E s)
    (he : starEach (e :: rest) env = (false, eval e env) :: starEach rest env := by rfl) (hplain : (backTo pos (starEach rest env)).any (·.1) = false := by rfl) :
    wpAny M A (callWith pos (.ref u) [] (backTo pos (starEach (e :: rest) env)) []) Q E s := by
  rw [he] at h ⊢
  refine callWith_wrapF (by show (false || (backTo pos (starEach rest env)).any (·.1)) = false; rw [hplain]; rfl) ?_
  exact evalArgs_plain h
open Classical in
theorem wrap_yesK {prog : Program} {w : World} {A : Around} {E : Value → Shared → Prop} {s : Shared} {h₀ : Heap} {L : Addr} {m : Str → Option Value} {news : List (Addr × Obj)} {q l : Addr} {g : List (Addr × Obj)} {xs : List Value} {k : Nat} {ds : List Dat} {x : Value} {d : Dat} {Q : Value → Shared → Prop} (F : Fr h₀ L s.heap m) (N : News h₀ L s.heap news) (ho : (q, wrapOf l) ∈ news) (G : ∀ p ∈ g, h₀.get? p.1 = some p.2) (ma : (l, W.listOf xs.toArray k) ∈ g) (Da : DatAll g xs ds)
    (Dx : DatIn g x d) (ha : ∀ d ∈ ds, kqdOk 8 d = true) (hd : kqdOk 8 d = true) (hu : A.units + 64 < cLine) (hm : d ∈ ds) (h : Q (.bool true) s) : wpAny (model prog w) A (call (.ref q) [x]) Q E s :=
  wrap_yes (fun p hp => F.keep _ _ (G p hp)) (N _ ho).1 ma Da Dx ha hd hu hm h
open Classical in
theorem wrap_noK {prog : Program} {w : World} {A : Around} {E : Value → Shared → Prop} {s : Shared} {h₀ : Heap} {L : Addr} {m : Str → Option Value} {news : List (Addr × Obj)} {q l : Addr} {g : List (Addr × Obj)} {xs : List Value} {k : Nat} {ds : List Dat} {x : Value} {d : Dat} {Q : Value → Shared → Prop} (F : Fr h₀ L s.heap m) (N : News h₀ L s.heap news) (ho : (q, wrapOf l) ∈ news) (G : ∀ p ∈ g, h₀.get? p.1 = some p.2) (ma : (l, W.listOf xs.toArray k) ∈ g) (Da : DatAll g xs ds)
    (Dx : DatIn g x d) (ha : ∀ d ∈ ds, kqdOk 8 d = true) (hd : kqdOk 8 d = true) (hu : A.units + 64 < cLine) (hm : d ∉ ds) (h : Q (.bool false) s) : wpAny (model prog w) A (call (.ref q) [x]) Q E s :=
  wrap_no (fun p hp => F.keep _ _ (G p hp)) (N _ ho).1 ma Da Dx ha hd hu hm h
theorem wordsNx1 : True := by
  k_with_none
  k_with "callWith builtin:list.append cons nil" => k_dflt (refine callWith_method1 ?_)
  k_with "eval Call Name cons nil" => k_dflt (refine Call_ ?_)
  k_with "eval Call Attribute cons nil" => k_dflt (refine MethodCall_ ?_)
  k_with "call builtin:list.append cons nil" => (k_dflt (refine' append_K ?k1 ?k2 ?k3 ?_ ?z; (case k1 => k_asm); (case k2 => k_asm); (case k3 => k_upd); (case z => assumption); k_whole); intro h'ₖ F'ₖ N'ₖ; (try dsimp only))
  k_with "exec For Name Call cons nil" => k_dflt (refine wpAny_For ?_ ?_)
  k_with "exec For Name Name cons nil" => k_dflt (refine wpAny_For ?_ ?_)
  k_with "exec For Tuple Name cons nil" => k_dflt (refine wpAny_For ?_ ?_)
  trivial
theorem wordsNx2 : True := by
  k_with "exec Assign cons ListComp" => (refine Stop.mk ?_)
  k_with "eval ListComp" => (refine Stop.mk ?_)
  k_with "eval Name" => ((with_reducible show wpAny _ _ (eval (Expr.Name _ _) (compEnvC _ _ _ _)) _ _ _); (rename Fr _ _ _ _ => F'ₖ); k_dflt (refine name_in F'ₖ rfl rfl (by with_unfolding_all rfl) ?_))
  k_with "callWith builtin:str.replace cons cons nil" => k_dflt (refine callWith_method1 ?_)
  k_with "callWith builtin:str.replace cons nil" => k_dflt (refine callWith_method1 ?_)
  k_with "callWith builtin:str.join cons nil" => k_dflt (refine callWith_method1 ?_)
  k_with "callWith builtin:len cons nil" => k_dflt (refine PyProof.Rows.callWith_builtin1 ?_)
  k_with "subscriptTail List cons Slice ref ref" => ((with_reducible show wpAny _ _ (subscriptTail _ (PySem.Expr.Slice _ _ none _) (Value.ref _) (Value.ref _)) _ _ _); k_dflt (refine kba_turn (value' := PySem.Expr.Name (PySem.Str.ofString "_") ⟨0, 0, 0, 0⟩) (fun _ => rfl) ?_; refine' kmk_slice_lit ?F ?N ?l ?p ?q ?e ?_ ?s ?t ?z; (case F => k_asm); (case N => k_asm); (case l => kmk_list); (case p => kmk_part); (case q => kmk_part); (case e => kl_lit); (case s => with_unfolding_all rfl); (case t => kmk_pure); (case z => kmk_size)); intro D'ₖ h'ₖ F'ₖ N'ₖ l1ₖ; (try k_lt l1ₖ))
  k_with "binaryOp Add ref ref" => ((rename Fr _ _ _ _ => F'ₖ); (rename News _ _ _ _ => N'ₖ); k_dflt (refine' add_K F'ₖ N'ₖ ?a ?b ?z ?_; (case a => k_mem); (case b => k_mem); (case z => assumption)); intro D'ₖ h'ₖ F'ₖ N'ₖ l1ₖ; (try k_lt l1ₖ))
  k_with "getAttr ref" => ((with_reducible show wpAny _ _ (getAttr (Value.ref _) (Str.ofString "__contains__") _) _ _ _); (rename Fr _ _ _ _ => F'ₖ); (rename News _ _ _ _ => N'ₖ); k_dflt (refine contains_attr F'ₖ N'ₖ (F'ₖ.keep _ _ (by assumption)) ?_); intro q'ₖ h'ₖ F'ₖ N'ₖ l1ₖ; (try dsimp only); (try k_lt l1ₖ))
  k_with "callWith builtin:iter cons nil" => k_dflt (refine PyProof.Rows.callWith_builtin1 ?_)
  k_with "call builtin:iter cons nil" => ((rename Fr _ _ _ _ => F'ₖ); (rename News _ _ _ _ => N'ₖ); k_dflt (refine iter_list F'ₖ N'ₖ (F'ₖ.keep _ _ (by assumption)) ?_); intro it'ₖ h'ₖ F'ₖ N'ₖ l1ₖ; (try dsimp only); (try k_lt l1ₖ))
  k_with "callWith builtin:re.Pattern.fullmatch cons nil" => k_dflt (refine callWith_method1 ?_)
  k_with "callWith builtin:re.Pattern.sub cons nil" => k_dflt (refine callWith_method1 ?_)
  trivial

theorem wordsNx3 : True := by
  k_with "exec While" => (refine Stop.mk ?_)
  k_with "callWith builtin:next cons nil" => k_dflt (refine PyProof.Rows.callWith_builtin1 ?_)
  k_with "call builtin:next cons nil" => ((rename Fr _ _ _ _ => F'ₖ); (rename News _ _ _ _ => N'ₖ); k_dflt (refine next_itemK F'ₖ N'ₖ (by assumption) (by assumption) (by assumption) ?_); clear F'ₖ N'ₖ; intro h'ₖ F'ₖ N'ₖ; (try dsimp only))
  k_with "call builtin:next cons nil" => ((rename Fr _ _ _ _ => F'ₖ); (rename News _ _ _ _ => N'ₖ); k_dflt (refine next_endK (by assumption) F'ₖ N'ₖ (by assumption) (by assumption) (by assumption) ?_); clear F'ₖ N'ₖ; intro hx'ₖ h'ₖ e'ₖ F'ₖ N'ₖ M'ₖ; (try dsimp only); refine Stop.mk ?_)
  k_with "callWith ref" => (k_dflt (refine callWith_wrap ?_))
  k_with "And" => ((with_reducible show WrapAt _ _ ∧ _); (rename News _ _ _ _ => N'ₖ); k_dflt (refine' ⟨⟨_, (N'ₖ (_, wrapOf _) ?wm).1⟩, ?_⟩; (case wm => k_mem)); (try dsimp only [List.nil_append, List.cons_append]))
  trivial

theorem wordsNx4 : True := by
  k_with "call ref cons nil" => ((rename Fr _ _ _ _ => F'ₖ); (rename News _ _ _ _ => N'ₖ); k_dflt (first | (refine' wrap_yesK F'ₖ N'ₖ ?w1 ?w2 ?w3 ?w4 ?w5 ?w6 ?w7 ?w8 ?w9 ?_; (case w1 => k_mem); (case w2 => assumption); (case w3 => assumption); (case w4 => assumption); (case w5 => assumption); (case w6 => assumption); (case w7 => assumption); (case w8 => (rename (_ + 100 < cLine) => hu'; exact units100 hu')); (case w9 => assumption)) | (refine' wrap_noK F'ₖ N'ₖ ?w1 ?w2 ?w3 ?w4 ?w5 ?w6 ?w7 ?w8 ?w9 ?_; (case w1 => k_mem); (case w2 => assumption); (case w3 => assumption); (case w4 => assumption); (case w5 => assumption); (case w6 => assumption); (case w7 => assumption); (case w8 => (rename (_ + 100 < cLine) => hu'; exact units100 hu')); (case w9 => assumption))); (try dsimp only))
  trivial
section
variable {w : World} {p : Program} {loose : List Str} {mean : ExcName → Option Value} {mg mb : Str → Option Value} {dp un : Nat} {fr : Option (List Env)} {gd : Option (List Code)} {s : Shared} {Q E : Value → Shared → Prop}
theorem next_c {A : Around} {outer : List Env} {base : Heap} {x dx q it a b na nb i : Nat} {va vb : List Value} {da db : List Dat} {g : List (Addr × Obj)} (X : (hd.heap_39 w.params).In (hideAll s.heap [it, x, dx, q])) (T : Top p loose mean mg mb (hideAll s.heap [it, x, dx, q]))
    (hd : A.depth + 1 < recursionLimit) (hA : A.handled = none) (K : Below A base outer (hideAll s.heap [it, x, dx, q])) (hu : A.units + 100 < cLine)
    (hit : s.heap.get? it = some (itOf a i)) (hx : s.heap.get? x = some (insOf dx q it)) (hdx : s.heap.get? dx = some (dictOf [] 0)) (hq : s.heap.get? q = some (wrapOf b)) (n1 : @Ne Nat x it) (n2 : @Ne Nat dx it) (n3 : @Ne Nat q it) (hi : i ≤ va.length)
    (G : ∀ p ∈ g, (hideAll s.heap [it, x, dx, q]).get? p.1 = some p.2) (ma : (a, W.listOf va.toArray na) ∈ g) (Da : DatAll g va da) (mb' : (b, W.listOf vb.toArray nb) ∈ g) (Db : DatAll g vb db) (ha : ∀ d ∈ da, kqdOk 8 d = true) (hb : ∀ d ∈ db, kqdOk 8 d = true)
    (hitem : ∀ j v, i ≤ j → va[j]? = some v → (∀ d, da[j]? = some d → d ∉ db) → (∀ k d, i ≤ k → k < j → da[k]? = some d → d ∈ db) → ∀ h' tk, (∀ c o, @Ne Nat c it → s.heap.get? c = some o → h'.get? c = some o) → h'.get? it = some (itOf a (j + 1)) → Q v { s with heap := h', toks := tk })
    (hend : (∀ k d, i ≤ k → da[k]? = some d → d ∈ db) → ∀ h' e t tk, RaisedK base outer e (.type "StopIteration") t [] [(x, insOf dx q it), (dx, dictOf [] 0), (q, wrapOf b)] h' → (hideAll s.heap [it, x, dx, q]).UpToSlots h' → E (.ref e) { s with heap := h', toks := tk }) :
    wpAny (model PySem.Challenge.rw_ik0003_01.row.prog w) A (call (.ref 116) [.ref x]) Q E s := by
  refine wpAny_call ?_
  refine' enter_K (binds := [(Str.ofString "self", .ref x)]) [(it, itOf a i), (x, insOf dx q it), (dx, dictOf [] 0), (q, wrapOf b)] ?k0 (fun b o e => of_hideAll _ (X b o e)) (T.nolimit.keeps fun b o e => of_hideAll _ e) ?k6 ?k7 ?k8 ?k9 ?kB ?_ ?c2 ?c3 ?c4 ?c5
  case k6 => k_is
  case k7 => k_is
  case k0 => exact List.forall_mem_cons.mpr ⟨hit, List.forall_mem_cons.mpr ⟨hx, List.forall_mem_cons.mpr ⟨hdx, List.forall_mem_cons.mpr ⟨hq, List.forall_mem_nil _⟩⟩⟩⟩
  case k8 => exact Nat.lt_of_succ_lt hd
  case k9 => exact BindsTo.of_eq rfl
  case kB => exact locs rfl
  case c2 => exact rfl
  case c3 => exact rfl
  case c4 => exact rfl
  case c5 => decide
  intro L' h₁ F N _
  generalize hg : hideAll s.heap [it, x, dx, q] = g₀ at *
  replace F : Fr g₀ L' h₁ (fun y => List.lookup y [(Str.ofString "self", .ref x)]) := by rw [← hg]; exact F
  replace N : News g₀ L' h₁ [(it, itOf a i), (x, insOf dx q it), (dx, dictOf [] 0), (q, wrapOf b)] := by rw [← hg]; exact N
  (try dsimp only)
  k_steps
  unfold Stop
  rename Fr _ _ _ _ => F'
  rename News _ _ _ _ => N'
  have hoff : OwnOff [(x, insOf dx q it), (dx, dictOf [] 0), (q, wrapOf b)] [it] := by
    intro p hp c hc
    rw [List.mem_singleton.mp hc]
    rcases List.mem_cons.mp hp with rfl | hp
    · exact n1
    · rcases List.mem_cons.mp hp with rfl | hp
      · exact n2
      · rw [List.mem_singleton.mp hp]; exact n3
  have hga := G _ ma
  have hAd : (A.deeper (envX (Str.ofString "filterfalse.__next__") { kind := ScopeKind.function, names := [(Str.ofString "self", NameKind.local), (Str.ofString "func", NameKind.local), (Str.ofString "item", NameKind.local), (Str.ofString "next", NameKind.globalImplicit), (Str.ofString "bool", NameKind.globalImplicit)], isGenerator := false, isCoroutine := false } L' 116 (Value.ref 115) [])).handled = none := hA
  refine while_e (fun n s' => ∃ j h tk m, s' = { s with heap := h, toks := tk } ∧ i ≤ j ∧ n + j = va.length ∧ (∀ k d, i ≤ k → k < j → da[k]? = some d → d ∈ db) ∧ Fr g₀ L' h m ∧ m (Str.ofString "func") = some (.ref q) ∧ m (Str.ofString "self") = some (.ref x) ∧ News g₀ L' h [(it, itOf a j), (x, insOf dx q it), (dx, dictOf [] 0), (q, wrapOf b)]) PassesOwn.leaving ?_ (va.length - i) ⟨i, _, _, _, rfl, Nat.le_refl _, by omega, fun k d h1 h2 => absurd h2 (by omega), F', rfl, rfl, N'⟩
  clear F' N'
  rintro n s' ⟨j, h₂, tk₂, m₂, rfl, hij, hnj, hall, F₂, hm1, hm2, N₂⟩
  rw [m_has hm1, m_has hm2] at F₂
  cases hv : va[j]? with
  | none =>
    k_steps
    unfold Stop
    rename Fr _ _ _ _ => F₃
    rename News _ _ _ _ => N₃
    rename Heap.MadeExcOf _ _ _ _ _ => M₃
    refine leave_raiseK K M₃ F₃ N₃ fun h' t R U => hend (fun k d hk hd => hall k d hk ?_ hd) _ _ _ _ R U
    have h1 := (List.getElem?_eq_some_iff.mp hd).1
    rw [← Da.length] at h1
    have h2 := List.getElem?_eq_none_iff.mp hv
    omega
  | some v =>
    have hjl : j < va.length := (List.getElem?_eq_some_iff.mp hv).1
    obtain ⟨v', hv', Dv⟩ := Da.get (k := j) (by rw [← Da.length]; exact hjl)
    rw [hv] at hv'
    cases hv'
    have hjd : j < da.length := by rw [← Da.length]; exact hjl
    have hdj : da[j]? = some da[j] := List.getElem?_eq_getElem _
    have hdm : kqdOk 8 da[j] = true := ha _ (List.getElem_mem _)
    generalize da[j] = d at Dv hdj hdm
    by_cases hdd : d ∈ db
    · k_steps
      unfold Stop
      rename Fr _ _ _ _ => F₃
      rename News _ _ _ _ => N₃
      refine ⟨n - 1, by omega, j + 1, _, _, _, rfl, by omega, by omega, fun k d' h1 h2 h3 => ?_, F₃, rfl, rfl, N₃⟩
      by_cases hkj : k = j
      · subst hkj
        rw [hdj] at h3
        cases h3
        exact hdd
      · exact hall k d' h1 (by omega) h3
    · k_steps
      rename Fr _ _ _ _ => F₃
      rename News _ _ _ _ => N₃
      refine hitem j v hij hv (fun d' h3 => by rw [hdj] at h3; cases h3; exact hdd) hall _ _ (fun c o hc e => ?_) (N₃ _ (.head _)).1
      by_cases hcm : c ∈ [it, x, dx, q]
      · rcases List.mem_cons.mp hcm with rfl | hcm
        · exact absurd rfl hc
        · rcases List.mem_cons.mp hcm with rfl | hcm
          · rw [hx] at e; cases e; exact (N₃ _ (.tail _ (.head _))).1
          · rcases List.mem_cons.mp hcm with rfl | hcm
            · rw [hdx] at e; cases e; exact (N₃ _ (.tail _ (.tail _ (.head _)))).1
            · have := List.mem_singleton.mp hcm; subst this; rw [hq] at e; cases e; exact (N₃ _ (.tail _ (.tail _ (.tail _ (.head _))))).1
      · exact F₃.keep c o (hg ▸ hideAll_get _ e hcm)
end
end Mine

set_option Elab.async false
set_option maxRecDepth 100000
set_option maxHeartbeats 4000000
set_option pp.maxSteps 6000
set_option pp.deepTerms false
namespace Mine
open PySem PySem.Calls PyProof.Rows PySem.W PySem.Builtin.Re
theorem keep_hide {g h : Heap} {l : List Addr} (k : ∀ b o, g.get? b = some o → h.get? b = some o) (hn : ∀ c ∈ l, g.get? c = none) : ∀ b o, g.get? b = some o → (hideAll h l).get? b = some o :=
  fun b o e => hideAll_get _ (k b o e) fun hm => by rw [hn b hm] at e; cases e
open Classical in
noncomputable def keptV (db : List Dat) : List Value → List Dat → List Value
  | v :: vs, d :: ds => if d ∈ db then keptV db vs ds else v :: keptV db vs ds
  | _, _ => []
open Classical in
theorem kept_dat {g : List (Addr × Obj)} {db : List Dat} : ∀ {va : List Value} {da : List Dat}, DatAll g va da → DatAll g (keptV db va da) (da.filter fun d => decide (d ∉ db))
  | [], [], _ => .nil
  | v :: vs, d :: ds, h => by
    cases h with
    | cons h1 h2 =>
      have ih := kept_dat (db := db) h2
      rw [keptV, List.filter_cons]
      by_cases hd : d ∈ db
      · rw [if_pos hd, if_neg (by simp [hd])]; exact ih
      · rw [if_neg hd, if_pos (by simp [hd])]; exact .cons h1 ih
theorem kept_len (db : List Dat) : ∀ (va : List Value) (da : List Dat), (keptV db va da).length ≤ va.length
  | v :: vs, d :: ds => by
    have := kept_len db vs ds
    rw [keptV]
    split
    · rw [List.length_cons]; omega
    · rw [List.length_cons, List.length_cons]; omega
  | [], _ => by rw [keptV]; exact Nat.le_refl _; intro _ _ _ _ h; cases h
  | _ :: _, [] => by rw [keptV]; exact Nat.zero_le _; intro _ _ _ _ _ h; cases h
theorem kept_nil (db : List Dat) (da : List Dat) : keptV db [] da = [] := by rw [keptV]; intro _ _ _ _ h; cases h
theorem drop_at {α : Type} {l : List α} {i : Nat} {x : α} (h : l[i]? = some x) : l.drop i = x :: l.drop (i + 1) := by
  obtain ⟨h1, h2⟩ := List.getElem?_eq_some_iff.mp h
  rw [List.drop_eq_getElem_cons h1, h2]
theorem kept_first {va : List Value} {da db : List Dat} (hl : va.length = da.length) {j : Nat} {v : Value} (hj : va[j]? = some v) (hd : ∀ d, da[j]? = some d → d ∉ db) : ∀ (n i : Nat), i + n = j → (∀ k d, i ≤ k → k < j → da[k]? = some d → d ∈ db) →
    keptV db (va.drop i) (da.drop i) = v :: keptV db (va.drop (j + 1)) (da.drop (j + 1))
  | 0, i, e, _ => by
    have e : i = j := e
    subst e
    have h1 : i < da.length := by rw [← hl]; exact (List.getElem?_eq_some_iff.mp hj).1
    have h2 : da[i]? = some da[i] := List.getElem?_eq_getElem h1
    rw [drop_at hj, drop_at h2, keptV, if_neg (hd _ h2)]
  | n + 1, i, e, hk => by
    have hj1 := (List.getElem?_eq_some_iff.mp hj).1
    have h0 : i < va.length := by omega
    have h1 : i < da.length := by omega
    have h2 : da[i]? = some da[i] := List.getElem?_eq_getElem h1
    rw [drop_at (List.getElem?_eq_getElem h0), drop_at h2, keptV, if_pos (hk i _ (Nat.le_refl _) (by omega) h2)]
    exact kept_first hl hj hd n (i + 1) (by omega) fun k d h3 => hk k d (by omega)
theorem kept_none {db : List Dat} : ∀ (va : List Value) (da : List Dat), (∀ d ∈ da, d ∈ db) → keptV db va da = []
  | [], da, _ => kept_nil db da
  | _ :: _, [], _ => by rw [keptV]; intro _ _ _ _ _ h; cases h
  | v :: vs, d :: ds, h => by
    rw [keptV, if_pos (h d (.head _))]
    exact kept_none vs ds fun d hd => h d (.tail _ hd)
section
variable {w : World} {p : Program} {loose : List Str} {mean : ExcName → Option Value} {mg mb : Str → Option Value}
abbrev fltScope : Scope := { kind := ScopeKind.function, names := [(Str.ofString "flist", NameKind.local), (Str.ofString "skip", NameKind.local), (Str.ofString "list", NameKind.globalImplicit), (Str.ofString "filterfalse", NameKind.globalImplicit)], isGenerator := false, isCoroutine := false }
abbrev fltEnv (L' : Addr) : Env := envX (Str.ofString "_filter") fltScope L' 131 (.ref 130) []
def fltRem (h₄ : Heap) (it a : Addr) (va : List Value) (da db : List Dat) (vs : List Value) (h : Heap) : Prop :=
  ∃ i, i ≤ va.length ∧ vs = keptV db (va.drop i) (da.drop i) ∧ (∀ c o, @Ne Nat c it → h₄.get? c = some o → h.get? c = some o) ∧ h.get? it = some (itOf a i)
def fltPre (h₄ : Heap) (it a : Addr) (h : Heap) : Prop := (∀ c o, @Ne Nat c it → h₄.get? c = some o → h.get? c = some o) ∧ h.get? it = some (itOf a 0)
def fltEnd (h₄ : Heap) (it : Addr) (fs : List Addr) (h : Heap) : Prop := (∀ c o, @Ne Nat c it → c ∉ fs → h₄.get? c = some o → h.get? c = some o) ∧ h₄.UpToSlots h
theorem own_filter {A₀ : Around} {outer : List Env} {base g₀ h₄ : Heap} {L' x dx q it a b na nb S : Nat} {m : Str → Option Value} {va vb : List Value} {da db : List Dat} {g : List (Addr × Obj)} (X : (hd.heap_39 w.params).In g₀) (T : Top p loose mean mg mb g₀)
    (hd : A₀.depth + 4 < recursionLimit) (hA : A₀.handled = none) (hu : A₀.units + 200 < cLine) (K : Below A₀ base outer g₀) (F : Fr g₀ L' h₄ m) (N : News g₀ L' h₄ [(it, itOf a 0), (x, insOf dx q it), (dx, dictOf [] 0), (q, wrapOf b)])
    (n1 : @Ne Nat it x) (n2 : @Ne Nat it dx) (n3 : @Ne Nat it q) (hS : h₄.get? S = none)
    (G : ∀ p ∈ g, (hideAll g₀ (outer.filterMap (·.frame))).get? p.1 = some p.2) (ma : (a, W.listOf va.toArray na) ∈ g) (Da : DatAll g va da) (mb' : (b, W.listOf vb.toArray nb) ∈ g) (Db : DatAll g vb db) (ha : ∀ d ∈ da, kqdOk 8 d = true) (hb : ∀ d ∈ db, kqdOk 8 d = true) :
    OwnIt PySem.Challenge.rw_ik0003_01.row.prog w (A₀.deeper (fltEnv L')).in1.in1 S x 120 (fltRem h₄ it a va da db) (fltPre h₄ it a) (fltEnd h₄ it ((fltEnv L' :: outer).filterMap (·.frame))) (keptV db va da) := by
  have z1 := N _ (.head _)
  have z2 := N _ (.tail _ (.head _))
  have z3 := N _ (.tail _ (.tail _ (.head _)))
  have z4 := N _ (.tail _ (.tail _ (.tail _ (.head _))))
  have Sit : @Ne Nat S it := fun e => by rw [show S = it from e, z1.1] at hS; cases hS
  have four : ∀ c ∈ [it, x, dx, q], g₀.get? c = none ∧ c ≠ L' ∧ ∃ o, h₄.get? c = some o := by
    intro c hc
    rcases List.mem_cons.mp hc with rfl | hc
    · exact ⟨z1.2.2, z1.2.1, _, z1.1⟩
    · rcases List.mem_cons.mp hc with rfl | hc
      · exact ⟨z2.2.2, z2.2.1, _, z2.1⟩
      · rcases List.mem_cons.mp hc with rfl | hc
        · exact ⟨z3.2.2, z3.2.1, _, z3.1⟩
        · rw [List.mem_singleton.mp hc]; exact ⟨z4.2.2, z4.2.1, _, z4.1⟩
  have fr : ∀ h : Heap, (∀ c o, @Ne Nat c it → h₄.get? c = some o → h.get? c = some o) → Fr g₀ L' h m := fun h k =>
    ⟨F.ns.at' fun o e => k _ _ (Ne.symm z1.2.1) e, fun b o e => k b o (fun q => by rw [q, z1.2.2] at e; cases e) (F.keep b o e), F.above⟩
  have inst : ∀ h : Heap, (∀ c o, @Ne Nat c it → h₄.get? c = some o → h.get? c = some o) → InstAt h x (insOf dx q it) 120 (some (dictOf [] 0)) := fun h k => ⟨k _ _ (Ne.symm n1) z2.1, rfl, rfl, k _ _ (Ne.symm n2) z3.1⟩
  have fs4 : ∀ c ∈ (fltEnv L' :: outer).filterMap (·.frame), ∃ o, h₄.get? c = some o := by
    intro c hc
    rw [List.filterMap_cons] at hc
    rcases List.mem_cons.mp hc with rfl | hc
    · obtain ⟨o, _, _, ho, _⟩ := id F.ns
      exact ⟨o, ho⟩
    · obtain ⟨_, o, ho, _⟩ := K.frames.mem hc
      exact ⟨o, F.keep _ _ ho⟩
  have Sfs : S ∉ (fltEnv L' :: outer).filterMap (·.frame) := fun hc => by obtain ⟨o, ho⟩ := fs4 S hc; rw [hS] at ho; cases ho
  have S4 : S ∉ [it, x, dx, q] := fun hc => by obtain ⟨_, _, o, ho⟩ := four S hc; rw [hS] at ho; cases ho
  have apart : ∀ env ∈ fltEnv L' :: outer, ∀ c ∈ [it, x, dx, q], env.frame ≠ some c := by
    intro env he c hc e
    rcases List.mem_cons.mp he with rfl | he
    · exact (four c hc).2.1 (Option.some.inj e).symm
    · obtain ⟨_, o, ho, _⟩ := K.frames.mem (List.mem_filterMap.mpr ⟨env, he, e⟩)
      rw [(four c hc).1] at ho; cases ho
  have callNext : ∀ (i : Nat) (s : Shared) (Q : Option Value → Shared → Prop) (E : Value → Shared → Prop), i ≤ va.length → (∀ c o, @Ne Nat c it → h₄.get? c = some o → s.heap.get? c = some o) → s.heap.get? it = some (itOf a i) →
      (∀ j v, i ≤ j → va[j]? = some v → (∀ d, da[j]? = some d → d ∉ db) → (∀ k d, i ≤ k → k < j → da[k]? = some d → d ∈ db) → ∀ h' tk, (∀ c o, @Ne Nat c it → s.heap.get? c = some o → h'.get? c = some o) → h'.get? it = some (itOf a (j + 1)) → Q (some v) { s with heap := h', toks := tk }) →
      ((∀ k d, i ≤ k → da[k]? = some d → d ∈ db) → ∀ h' tk, fltEnd h₄ it ((fltEnv L' :: outer).filterMap (·.frame)) h' → (∀ o, s.heap.get? S = some o → h'.get? S = some o) → Q none { s with heap := h', toks := tk }) →
      wpAny (model PySem.Challenge.rw_ik0003_01.row.prog w) (A₀.deeper (fltEnv L')).in1.in1 (pyNext (.ref x)) Q E s := by
    intro i s Q E hi k hit h1 h2
    refine owit_next (f := 116) (fr _ k) X (inst _ k) (by k_is) (by k_is) ?_
    have k4 : ∀ b o, g₀.get? b = some o → (hideAll s.heap [it, x, dx, q]).get? b = some o := keep_hide (fr _ k).keep fun c hc => (four c hc).1
    have K' : Below (A₀.deeper (fltEnv L')).in1.in1 (hideAll (hideAll s.heap [it, x, dx, q]) ((fltEnv L' :: outer).filterMap (·.frame))) (fltEnv L' :: outer) (hideAll s.heap [it, x, dx, q]) :=
      ⟨Around.frames_deeper K.stack, fun b o e => of_hideAll _ e, funFrames_hide (funFrames_hideAll (K.push (name := Str.ofString "_filter") (scope := fltScope) (a := 131) (cd := .ref 130) (fr _ k)).frames apart) fun env he c hc => List.mem_filterMap.mpr ⟨env, he, hc⟩⟩
    refine next_c (b := b) (na := na) (nb := nb) (g := g) (fun b o e => k4 b o (X b o e)) (T.keeps k4) (by show A₀.depth + 1 + 1 < recursionLimit; omega) hA K' (by show A₀.units + 3 + 1 + 1 + 100 < cLine; omega) hit (k _ _ (Ne.symm n1) z2.1) (k _ _ (Ne.symm n2) z3.1) (k _ _ (Ne.symm n3) z4.1) (Ne.symm n1) (Ne.symm n2) (Ne.symm n3) hi (fun p hp => k4 _ _ (of_hideAll _ (G p hp))) ma Da mb' Db ha hb h1 ?_
    intro hall h' e t tk R U
    obtain ⟨⟨B, hB, hl, hfl, _⟩, _⟩ := R
    have hf' := flyingW_base hB hfl
    obtain ⟨ob, hob, hobc⟩ := hf'.there
    have hT : ({ s with heap := h', toks := tk } : Shared).TypeIs (.ref e) "StopIteration" := ⟨ob, hob, hobc⟩
    unfold OwitStop
    refine wpAny_isInstance hT isSubtype_stop ?_
    show (if true = true then Q none { s with heap := h', toks := tk } else E (.ref e) { s with heap := h', toks := tk })
    rw [if_pos rfl]
    have v2 := hfl.1 _ _ (hl _ (.head _)).1
    have v3 := hfl.1 _ _ (hl _ (.tail _ (.head _))).1
    have v4 := hfl.1 _ _ (hl _ (.tail _ (.tail _ (.head _)))).1
    refine h2 hall h' tk ⟨fun c o hc hcf e => ?_, fun c o e hnf => ?_⟩ fun o e => hfl.1 _ _ (hB _ _ (hideAll_get _ (hideAll_get _ e S4) Sfs))
    · by_cases c4 : c ∈ [it, x, dx, q]
      · rcases List.mem_cons.mp c4 with rfl | c4
        · exact absurd rfl hc
        · rcases List.mem_cons.mp c4 with rfl | c4
          · rw [z2.1] at e; cases e; exact v2
          · rcases List.mem_cons.mp c4 with rfl | c4
            · rw [z3.1] at e; cases e; exact v3
            · have := List.mem_singleton.mp c4; subst this; rw [z4.1] at e; cases e; exact v4
      · exact hfl.1 _ _ (hB _ _ (hideAll_get _ (hideAll_get _ (k c o hc e) c4) hcf))
    · by_cases c4 : c ∈ [it, x, dx, q]
      · rcases List.mem_cons.mp c4 with rfl | c4
        · rw [z1.1] at e; cases e; exact absurd rfl (hnf _)
        · rcases List.mem_cons.mp c4 with rfl | c4
          · rw [z2.1] at e; cases e; exact ⟨_, v2⟩
          · rcases List.mem_cons.mp c4 with rfl | c4
            · rw [z3.1] at e; cases e; exact ⟨_, v3⟩
            · have := List.mem_singleton.mp c4; subst this; rw [z4.1] at e; cases e; exact ⟨_, v4⟩
      · exact U c o (hideAll_get _ (k c o (fun q => c4 (q ▸ .head _)) e) c4) hnf
  have hlen := Da.length
  refine ⟨?_, ?_, ?_, ?_, ?_, ?_, ?_, ?_⟩
  · rintro v vs s Q E ⟨i, hi, hv, k, hit⟩ h
    refine callNext i s Q E hi k hit (fun j v' hij hv' hd1 hd2 h' tk hk hi2 => ?_) fun hall h' tk _ _ => ?_
    · rw [kept_first hlen hv' hd1 (j - i) i (by omega) hd2] at hv
      cases hv
      refine h h' tk ⟨j + 1, (List.getElem?_eq_some_iff.mp hv').1, rfl, fun c o hc e => hk c o hc (k c o hc e), hi2⟩ fun o e => hk _ _ Sit e
    · rw [kept_none _ _ fun d hdm => by
        obtain ⟨n, hn⟩ := List.mem_iff_getElem?.mp hdm
        rw [List.getElem?_drop] at hn
        exact hall (i + n) d (by omega) hn] at hv
      cases hv
  · rintro s Q E ⟨i, hi, hv, k, hit⟩ h
    refine callNext i s Q E hi k hit (fun j v' hij hv' hd1 hd2 h' tk hk hi2 => ?_) fun hall h' tk he hs => h h' tk he hs
    rw [kept_first hlen hv' hd1 (j - i) i (by omega) hd2] at hv
    cases hv
  · rintro s Q E ⟨k, hit⟩ h
    refine owit_iter (f := 109) (fr _ k) X (inst _ k) (by k_is) (by k_is) (wpAny_call (iter_c (fun b o e => (fr _ k).keep b o (X b o e)) (T.keeps (fr _ k).keep) (by show A₀.depth + 1 < recursionLimit; omega) fun h' tk hg => ?_))
    refine owit_it (s := { s with heap := h', toks := tk }) (fr h' fun c o hc e => hg c o (k c o hc e)) X (inst h' fun c o hc e => hg c o (k c o hc e)) (by k_is) ?_
    exact h h' tk ⟨0, Nat.zero_le _, rfl, fun c o hc e => hg c o (k c o hc e), hg _ _ hit⟩ fun o e => hg _ _ e
  · rintro vs h h' ⟨i, hi, hv, k, hit⟩ hk
    exact ⟨i, hi, hv, fun c o hc e => hk c o (fun q => by rw [q, hS] at e; cases e) (k c o hc e), hk _ _ (Ne.symm Sit) hit⟩
  · rintro h h' ⟨k, hit⟩ hk
    exact ⟨fun c o hc e => hk c o (fun q => by rw [q, hS] at e; cases e) (k c o hc e), hk _ _ (Ne.symm Sit) hit⟩
  · rintro h ⟨k, hit⟩
    exact (inst h k).type
  · rintro h vs ⟨i, hi, hv, k, hit⟩
    exact (inst h k).type.andThen (looks_findIn (fun b o e => (fr h k).keep b o (X b o e)) (by k_is))
  · rintro h vs ⟨i, hi, hv, k, hit⟩
    exact (inst h k).type.andThen (looks_findIn (fun b o e => (fr h k).keep b o (X b o e)) (by k_is))
end
theorem wordsFl1 : True := by
  k_with_none
  k_with "callWith builtin:list.append cons nil" => k_dflt (refine callWith_method1 ?_)
  k_with "eval Call Name cons nil" => k_dflt (refine Call_ ?_)
  k_with "eval Call Attribute cons nil" => k_dflt (refine MethodCall_ ?_)
  k_with "call builtin:list.append cons nil" => (k_dflt (refine' append_K ?k1 ?k2 ?k3 ?_ ?z; (case k1 => k_asm); (case k2 => k_asm); (case k3 => k_upd); (case z => assumption); k_whole); intro h'ₖ F'ₖ N'ₖ; (try dsimp only))
  k_with "exec For Name Call cons nil" => k_dflt (refine wpAny_For ?_ ?_)
  k_with "exec For Name Name cons nil" => k_dflt (refine wpAny_For ?_ ?_)
  k_with "exec For Tuple Name cons nil" => k_dflt (refine wpAny_For ?_ ?_)
  trivial
theorem wordsFl2 : True := by
  k_with "exec Assign cons ListComp" => (refine Stop.mk ?_)
  k_with "eval ListComp" => (refine Stop.mk ?_)
  k_with "eval Name" => ((with_reducible show wpAny _ _ (eval (Expr.Name _ _) (compEnvC _ _ _ _)) _ _ _); (rename Fr _ _ _ _ => F'ₖ); k_dflt (refine name_in F'ₖ rfl rfl (by with_unfolding_all rfl) ?_))
  k_with "callWith builtin:str.replace cons cons nil" => k_dflt (refine callWith_method1 ?_)
  k_with "callWith builtin:str.replace cons nil" => k_dflt (refine callWith_method1 ?_)
  k_with "callWith builtin:str.join cons nil" => k_dflt (refine callWith_method1 ?_)
  k_with "callWith builtin:len cons nil" => k_dflt (refine PyProof.Rows.callWith_builtin1 ?_)
  k_with "subscriptTail List cons Slice ref ref" => ((with_reducible show wpAny _ _ (subscriptTail _ (PySem.Expr.Slice _ _ none _) (Value.ref _) (Value.ref _)) _ _ _); k_dflt (refine kba_turn (value' := PySem.Expr.Name (PySem.Str.ofString "_") ⟨0, 0, 0, 0⟩) (fun _ => rfl) ?_; refine' kmk_slice_lit ?F ?N ?l ?p ?q ?e ?_ ?s ?t ?z; (case F => k_asm); (case N => k_asm); (case l => kmk_list); (case p => kmk_part); (case q => kmk_part); (case e => kl_lit); (case s => with_unfolding_all rfl); (case t => kmk_pure); (case z => kmk_size)); intro D'ₖ h'ₖ F'ₖ N'ₖ l1ₖ; (try k_lt l1ₖ))
  k_with "binaryOp Add ref ref" => ((rename Fr _ _ _ _ => F'ₖ); (rename News _ _ _ _ => N'ₖ); k_dflt (refine' add_K F'ₖ N'ₖ ?a ?b ?z ?_; (case a => k_mem); (case b => k_mem); (case z => assumption)); intro D'ₖ h'ₖ F'ₖ N'ₖ l1ₖ; (try k_lt l1ₖ))
  k_with "getAttr ref" => ((with_reducible show wpAny _ _ (getAttr (Value.ref _) (Str.ofString "__contains__") _) _ _ _); (rename Fr _ _ _ _ => F'ₖ); (rename News _ _ _ _ => N'ₖ); k_dflt (refine contains_attr F'ₖ N'ₖ (F'ₖ.keep _ _ (by assumption)) ?_); intro q'ₖ h'ₖ F'ₖ N'ₖ l1ₖ; (try dsimp only); (try k_lt l1ₖ))
  k_with "callWith builtin:iter cons nil" => k_dflt (refine PyProof.Rows.callWith_builtin1 ?_)
  k_with "call builtin:iter cons nil" => ((rename Fr _ _ _ _ => F'ₖ); (rename News _ _ _ _ => N'ₖ); k_dflt (refine iter_list F'ₖ N'ₖ (F'ₖ.keep _ _ (by assumption)) ?_); intro it'ₖ h'ₖ F'ₖ N'ₖ l1ₖ; (try dsimp only); (try k_lt l1ₖ))
  k_with "callWith builtin:re.Pattern.fullmatch cons nil" => k_dflt (refine callWith_method1 ?_)
  k_with "callWith builtin:re.Pattern.sub cons nil" => k_dflt (refine callWith_method1 ?_)
  trivial

theorem wordsFl3 : True := by
  k_with "call ref cons cons nil" => (refine Stop.mk ?_)
  k_with "call ref" => (refine Stop.mk ?_)
  k_with "call type:list" => (refine Stop.mk ?_)
  trivial
section
variable {w : World} {p : Program} {loose : List Str} {mean : ExcName → Option Value} {mg mb : Str → Option Value} {dp un : Nat} {gd : Option (List Code)} {s : Shared} {Q E : Value → Shared → Prop}
open Classical in
theorem filter_c {outer : List Env} {base : Heap} {a b na nb : Nat} {va vb : List Value} {da db : List Dat} {g : List (Addr × Obj)} (X : (hd.heap_39 w.params).In s.heap) (T : Top p loose mean mg mb s.heap)
    (hd : dp + 4 < recursionLimit) (hu : un + 200 < cLine) (K : Below (Ar dp (some outer) gd un) base outer s.heap)
    (G : ∀ p ∈ g, (hideAll s.heap (outer.filterMap (·.frame))).get? p.1 = some p.2) (ma : (a, W.listOf va.toArray na) ∈ g) (Da : DatAll g va da) (mb' : (b, W.listOf vb.toArray nb) ∈ g) (Db : DatAll g vb db) (ha : ∀ d ∈ da, kqdOk 8 d = true) (hb : ∀ d ∈ db, kqdOk 8 d = true) (hz : va.length ≤ 1000000)
    (h : ∀ h' tk a' n' vs, (∀ c o, (hideAll s.heap (outer.filterMap (·.frame))).get? c = some o → h'.get? c = some o) → s.heap.UpToSlots h' → h'.get? a' = some (W.listOf vs.toArray n') → s.heap.get? a' = none → DatAll g vs (da.filter fun d => decide (d ∉ db)) → Q (.ref a') { s with heap := h', toks := tk }) :
    wpAny (model PySem.Challenge.rw_ik0003_01.row.prog w) (Ar dp (some outer) gd un) (call (.ref 131) [.ref a, .ref b]) Q E s := by
  refine wpAny_call ?_
  refine' enter_K (binds := [(Str.ofString "flist", .ref a), (Str.ofString "skip", .ref b)]) [] ?k0 X T.nolimit ?k6 ?k7 ?k8 ?k9 ?kB ?_ ?c2 ?c3 ?c4 ?c5
  case k6 => k_is
  case k7 => k_is
  case k0 => exact List.forall_mem_nil _
  case k8 => (show dp < recursionLimit; omega)
  case k9 => exact BindsTo.of_eq rfl
  case kB => exact locs rfl
  case c2 => exact rfl
  case c3 => exact rfl
  case c4 => exact rfl
  case c5 => decide
  intro L' h₁ F N _
  replace F : Fr s.heap L' h₁ (fun y => List.lookup y [(Str.ofString "skip", .ref b), (Str.ofString "flist", .ref a)]) := F
  replace N : News s.heap L' h₁ [] := N
  have hga : s.heap.get? a = some (W.listOf va.toArray na) := of_hideAll _ (G _ ma)
  have hgb : s.heap.get? b = some (W.listOf vb.toArray nb) := of_hideAll _ (G _ mb')
  have Kf := K.push (name := Str.ofString "_filter") (a := 131) (cd := .ref 130) F (scope := { kind := ScopeKind.function, names := [(Str.ofString "flist", NameKind.local), (Str.ofString "skip", NameKind.local), (Str.ofString "list", NameKind.globalImplicit), (Str.ofString "filterfalse", NameKind.globalImplicit)], isGenerator := false, isCoroutine := false })
  (try dsimp only)
  k_steps
  unfold Stop
  rename Fr _ _ _ _ => F₂
  rename News _ _ _ _ => N₂
  refine call_cls (fI := 102) F₂ X N₂ ?hm ?hi ?hf ?_
  case hm => k_is
  case hi => k_is
  case hf => k_is
  intro x dx h₃ F₃ N₃ l3 l4
  have x0 := (N₃ _ (.head _)).2.2
  have dx0 := (N₃ _ (.tail _ (.head _))).2.2
  have xd0 : ∀ c ∈ [x, dx], s.heap.get? c = none := fun c hc => by
    rcases List.mem_cons.mp hc with rfl | hc
    · exact x0
    · rw [List.mem_singleton.mp hc]; exact dx0
  refine init_c (fun b o e => keep_hide F₃.keep xd0 b o (X b o e)) (T.keeps (keep_hide F₃.keep xd0)) ?hd1 ?hA1 (N₃ _ (.head _)).1 (N₃ _ (.tail _ (.head _))).1 l4 (keep_hide F₃.keep xd0 _ _ hga) ?_
  case hd1 => (show dp + 1 + 1 < recursionLimit; omega)
  case hA1 => rfl
  intro h₄ tk₄ it k1 k2 k3 k4
  (try dsimp only at k1 k2 k3 k4)
  refine ⟨rfl, ?_⟩
  obtain ⟨oL, _, _, hoL, _⟩ := id F₃.ns
  have xL := (N₃ _ (.head _)).2.1
  have F₄ := Fr.mk (h₀ := s.heap) (F₃.ns.extBut k1 (Ne.symm xL)) (fun b o e => k1 b o (fun q'ₖ => by rw [q'ₖ, x0] at e; cases e) (F₃.keep b o e)) F₃.above
  have itL : @Ne Nat it L' := fun e => by rw [show it = L' from e, hoL] at k4; cases k4
  have it0 : s.heap.get? it = none := by
    cases e : s.heap.get? it with
    | none => rfl
    | some o => rw [F₃.keep _ _ e] at k4; cases k4
  have itx : @Ne Nat it x := fun e => by rw [show it = x from e, (N₃ _ (.head _)).1] at k4; cases k4
  have itdx : @Ne Nat it dx := fun e => by rw [show it = dx from e, (N₃ _ (.tail _ (.head _))).1] at k4; cases k4
  have itq : @Ne Nat it q'ₖ := fun e => by rw [show it = q'ₖ from e, (N₃ _ (.tail _ (.tail _ (.head _)))).1] at k4; cases k4
  have xdx : @Ne Nat x dx := Nat.ne_of_gt l4
  have qdx : @Ne Nat q'ₖ dx := Nat.ne_of_lt (l3 _ (.head _))
  have xq : @Ne Nat x q'ₖ := Nat.ne_of_gt (Nat.lt_trans (l3 _ (.head _)) l4)
  have N₄ : News s.heap L' h₄ [(it, itOf a 0), (x, insOf dx q'ₖ it), (dx, dictOf [] 0), (q'ₖ, wrapOf b)] := by
    intro p hp
    rcases List.mem_cons.mp hp with rfl | hp
    · exact ⟨k3, itL, it0⟩
    · rcases List.mem_cons.mp hp with rfl | hp
      · exact ⟨k2, xL, x0⟩
      · rcases List.mem_cons.mp hp with rfl | hp
        · exact ⟨k1 _ _ (Ne.symm xdx) (N₃ _ (.tail _ (.head _))).1, (N₃ _ (.tail _ (.head _))).2⟩
        · rw [List.mem_singleton.mp hp]
          exact ⟨k1 _ _ (Ne.symm xq) (N₃ _ (.tail _ (.tail _ (.head _)))).1, (N₃ _ (.tail _ (.tail _ (.head _)))).2⟩
  clear F₂ N₂ F₃ N₃
  k_steps
  unfold Stop
  rename Fr _ _ _ _ => F₅
  rename News _ _ _ _ => N₅
  refine list_own (own_filter (S := h₄.objs.size) X T (by show dp + 4 < recursionLimit; omega) rfl (by show un + 200 < cLine; omega) K F₅ N₅ itx itdx itq (Heap.get?_none_of_le (Nat.le_refl _)) G ma Da mb' Db ha hb) (Nat.le_trans (kept_len _ _ _) hz) (Heap.lt_size (N₅ _ (.tail _ (.head _))).1) ⟨fun c o _ e => e, (N₅ _ (.head _)).1⟩ ?_
  intro h' tk c' he hS'
  refine h h' tk _ c' (keptV db va da) (fun c o e => ?_) ((Heap.UpToSlots.of_keeps F₅.keep).trans he.2) hS' (Heap.get?_none_of_le (Nat.le_trans F₅.above (Nat.le_of_lt F₅.ns.lt))) (kept_dat Da)
  have e1 := of_hideAll _ e
  refine he.1 c o (fun q'ₖ => by rw [q'ₖ, it0] at e1; cases e1) (fun hc => ?_) (F₅.keep _ _ e1)
  rw [List.filterMap_cons] at hc
  rcases List.mem_cons.mp hc with rfl | hc
  · exact Nat.lt_irrefl _ (Nat.lt_of_lt_of_le (Heap.lt_size e1) F₅.above)
  · rw [hideAll_none _ hc] at e; cases e
end
end Mine

set_option maxHeartbeats 400000
set_option Elab.async false
set_option maxRecDepth 100000
namespace Mine
open PySem PySem.Calls PyProof.Rows PySem.W
section
variable {prog : Program} {w : World} {A : Around} {E : Value → Shared → Prop} {s : Shared} {env cenv : Env} {R : Result → Shared → Prop} {elt target iter : Expr} {ifs : List Expr} {scope : Scope} {pos : Pos}
/-- what a comprehension's list is to bring, when some objects may turn meanwhile -/
structure CompH (prog : Program) (w : World) (A : Around) (env : Env) (elt target : Expr) (ifs : List Expr) (scope : Scope) (cl : List (Str × Addr)) (l : Addr) (vs : List Value) (hid : List (Addr × Obj)) (J : Nat → List Value → List (Addr × Obj) → Prop) (s : Shared) : Prop where
  list : (hideAll s.heap (hid.map (·.1))).IsList l vs.toArray
  short : vs.length ≤ 1000000
  here : ∀ p ∈ hid, s.heap.get? p.1 = some p.2
  start : J 0 [] hid
  turn : ∀ C i v ys m₁ nx h tk own, vs[i]? = some v → J i ys nx → (∀ q ∈ own, ∀ p ∈ nx, p.1 ≠ q.1) → Fr (hideAll s.heap (hid.map (·.1))) C h m₁ → News (hideAll s.heap (hid.map (·.1))) C h (nx ++ own) →
      wpAny (model prog w) A (assign target (compEnvC scope cl C env) v) (fun _ s₂ => wpAny (model prog w) A (testsOf (compEnvC scope cl C env) ifs) (fun ok s₃ =>
        if ok = true then wpAny (model prog w) A (eval elt (compEnvC scope cl C env)) (fun y s₄ => EltEnd (hideAll s.heap (hid.map (·.1))) C (J (i + 1) (ys ++ [y])) own s s₄) Never s₃ else EltEnd (hideAll s.heap (hid.map (·.1))) C (J (i + 1) ys) own s s₃) Never s₂) Never { s with heap := h, toks := tk }

theorem comp_blockH {cl : List (Str × Addr)} {l : Addr} {vs : List Value} {hid : List (Addr × Obj)} {J : Nat → List Value → List (Addr × Obj) → Prop} {RR : Value → Addr → Result → Shared → Prop} (hh : A.handled = none) (hcell : ∀ y ∈ scope.names, y.2 ≠ .cell) (hkind : scope.kind = .function)
    (hc : CompH prog w A env elt target ifs scope cl l vs hid J s) (hRR : ∀ D C ys k nx m h' tk, J vs.length ys nx → C ≠ D → s.heap.get? C = none → s.heap.get? D = none → h'.Ns C m → (∀ b o, (hideAll s.heap (hid.map (·.1))).get? b = some o → h'.get? b = some o) → (∀ p ∈ (D, W.listOf ys.toArray k) :: nx, h'.get? p.1 = some p.2 ∧ (hideAll s.heap (hid.map (·.1))).get? p.1 = none ∧ p.1 ≠ C) → (∀ p ∈ nx, p.1 ≠ D) →
      RR (.ref D) C (.ok .next) { s with heap := h', toks := tk }) :
    wpAny (model prog w) A (pyIter (.ref l)) (fun it s₂ => wpAny (model prog w) A (newList []) (fun acc s₃ => wpAny (model prog w) A (newFunctionEnv scope env.globals cl [] env.qual none .none (some env)) (fun cenv s₄ =>
      codeAny (model prog w) A (.compStart (.ListComp elt [⟨target, iter, ifs, 0⟩] scope pos) 0 it acc { cenv with scope := relabel scope env }) (RR acc cenv.locals) s₄) E s₃) E s₂) E s := by
  obtain ⟨hl, hvs, hhere, hj, turn⟩ := hc
  have hlr : s.heap.IsList l vs.toArray := hl.at fun o e => of_hideAll _ e
  have hlt : l < s.heap.objs.size := by obtain ⟨_, e, _⟩ := hlr; exact Heap.lt_size e
  refine wpAny_pyIter_list hlr ?_
  have hz1 : (s.heap.push { cls := .type "list_iterator", data := .fields #[.ref l, .int 0 0] }).objs.size = s.heap.objs.size + 1 := Heap.size_push _ _
  have hI1 : (s.heap.push { cls := .type "list_iterator", data := .fields #[.ref l, .int 0 0] }).IsListIter s.heap.objs.size l 0 := ⟨_, Heap.get?_push_size _ rfl, rfl, rfl⟩
  have keep1 : Grows s.heap (s.heap.push { cls := .type "list_iterator", data := .fields #[.ref l, .int 0 0] }) := Grows.push _ _
  generalize s.heap.push { cls := .type "list_iterator", data := .fields #[.ref l, .int 0 0] } = H1 at hz1 hI1 keep1 ⊢
  refine wpAny_newObj_type (wpAny_newFunctionEnv hcell (by intro y hy; simp at hy) (fun h₁ hns₁ hsb₁ => ?_) hkind)
  dsimp only at hns₁ hsb₁ ⊢
  have hz2 : (H1.push { cls := .type "list", dict := none, data := .seq ([] : List Value).toArray }).objs.size = H1.objs.size + 1 := Heap.size_push _ _
  have hD1 : (H1.push { cls := .type "list", dict := none, data := .seq ([] : List Value).toArray }).get? H1.objs.size = some (W.listOf #[] 0) := Heap.get?_push_size _ rfl
  have keep2 : Grows H1 (H1.push { cls := .type "list", dict := none, data := .seq ([] : List Value).toArray }) := Grows.push _ _
  generalize H1.push { cls := .type "list", dict := none, data := .seq ([] : List Value).toArray } = H2 at hz2 hD1 keep2 hns₁ hsb₁ ⊢
  have keep3 : Grows H2 h₁ := fun b o e => hsb₁.extBut b o (Nat.ne_of_lt (Heap.lt_size e)) (Heap.get?_push_of_some _ e)
  have fresh : ∀ a, s.heap.objs.size ≤ a → s.heap.get? a = none := fun a ha => Heap.get?_none_of_le ha
  have hidden : ∀ a, s.heap.get? a = none → (hideAll s.heap (hid.map (·.1))).get? a = none := fun a ha => by
    cases e : (hideAll s.heap (hid.map (·.1))).get? a with
    | none => rfl
    | some o => rw [of_hideAll _ e] at ha; cases ha
  have hCD : H2.objs.size ≠ H1.objs.size := by omega
  have hC0 : s.heap.get? H2.objs.size = none := fresh _ (by omega)
  have hD0 : s.heap.get? H1.objs.size = none := fresh _ (by omega)
  have G1 : Grows s.heap h₁ := keep1.trans (keep2.trans keep3)
  have F1 : Fr (hideAll s.heap (hid.map (·.1))) H2.objs.size h₁ (fun x => List.lookup x ([] : List (Str × Value)).reverse) := ⟨hns₁, fun b o e => G1 b o (of_hideAll _ e), by rw [hideAll_size]; omega⟩
  have I3 : h₁.IsListIter s.heap.objs.size l 0 := hI1.at fun o e => keep3 _ _ (keep2 _ _ e)
  have hidlt : ∀ p ∈ hid, p.1 < s.heap.objs.size := fun p hp => Heap.lt_size (hhere p hp)
  have N1 : News (hideAll s.heap (hid.map (·.1))) H2.objs.size h₁ hid := fun p hp => ⟨G1 _ _ (hhere p hp), Nat.ne_of_lt (Nat.lt_of_lt_of_le (hidlt p hp) (by omega)), hideAll_none _ (List.mem_map_of_mem hp)⟩
  have loop : ∀ s₃ : Shared, s₃ = { s with heap := h₁, toks := s.toks + ([] : List (Str × Value)).length } →
      codeAny (model prog w) A (.compLoop (.ListComp elt [⟨target, iter, ifs, 0⟩] scope pos) 0 (.ref s.heap.objs.size) (.ref H1.objs.size) (compEnvC scope cl H2.objs.size env))
        (RR (.ref H1.objs.size) H2.objs.size) s₃ := by
    rintro s₃ rfl
    refine comp_turns (env := compEnvC scope cl H2.objs.size env) (g := hideAll s.heap (hid.map (·.1))) (nx₀ := hid) J hh F1 N1 hj hl hvs I3 (show s.heap.objs.size ≠ H2.objs.size by omega) (hidden _ (fresh _ (Nat.le_refl _))) (fun p hp => Nat.ne_of_lt (hidlt p hp)) (keep3 _ _ hD1) (show H1.objs.size ≠ H2.objs.size by omega) (hidden _ hD0) (fun p hp => Nat.ne_of_lt (Nat.lt_of_lt_of_le (hidlt p hp) (by omega))) (show s.heap.objs.size ≠ H1.objs.size by omega) (fun i v ys m₁ nx h tk own hv hJ hs F N => ?_) ?_
    · exact wpAny_mono (turn H2.objs.size i v ys m₁ nx h tk own hv hJ hs F N) (fun _ _ q => q) fun _ _ q => q
    · intro ys k m₁ nx h tk hJ F N hap
      exact hRR H1.objs.size H2.objs.size ys k nx m₁ h tk hJ hCD hC0 hD0 F.ns F.keep (fun p hp => ⟨(N p hp).1, (N p hp).2.2, (N p hp).2.1⟩) hap
  exact codeAny_compStart_list (loop _ rfl) (wpAny_pyIter_listiter I3 (loop _ rfl))

theorem list_compH {cl : List (Str × Addr)} {Q : Value → Shared → Prop} (hh : A.handled = none) (hclos : closureFor scope env = pure cl) (hcell : ∀ y ∈ scope.names, y.2 ≠ .cell) (hkind : scope.kind = .function)
    (hnames : ∀ y ∈ scope.names, y.2 = .local → scope.names.lookup y.1 = some .local)
    (h : wpAny (model prog w) A (eval iter env) (fun xv s₁ => Stop (∃ l vs hid J, xv = .ref l ∧ CompH prog w A env elt target ifs scope cl l vs hid J s₁ ∧
      ∀ D ys k nx h' tk, J vs.length ys nx → (∀ b o, (hideAll s₁.heap (hid.map (·.1))).get? b = some o → h'.get? b = some o) → (∀ p ∈ (D, W.listOf ys.toArray k) :: nx, h'.get? p.1 = some p.2 ∧ (hideAll s₁.heap (hid.map (·.1))).get? p.1 = none) → (∀ p ∈ nx, p.1 ≠ D) → s₁.heap.get? D = none → Q (.ref D) { s₁ with heap := h', toks := tk })) E s)
    (hs : ∀ x, foldedSetIterable iter env x = pure x := by intro _; rfl) :
    wpAny (model prog w) A (eval (.ListComp elt [⟨target, iter, ifs, 0⟩] scope pos) env) Q E s := by
  rw [eval_ListComp]
  refine wpAny_comprehension_free (use := none) rfl hs hclos hkind hnames (wpAny_mono h (fun xv s₁ h₁ => ?_) fun _ _ e => e)
  obtain ⟨l, vs, hid, J, rfl, hc, fin⟩ := h₁
  refine comp_blockH (RR := fun acc C => compPost (model prog w) A E none Q acc C) hh hcell hkind hc ?_
  intro D C ys k nx m h' tk hJ hCD hC hD0 hns hg hN hap
  refine ⟨m, hns, fun h'' hs' => ?_⟩
  exact fin D ys k nx h'' tk hJ (fun b o e => hs'.extBut b o (fun q => by have e' := of_hideAll _ e; rw [q, hC] at e'; cases e') (hg b o e)) (fun p hp => ⟨hs'.extBut _ _ (hN p hp).2.2 (hN p hp).1, (hN p hp).2.1⟩) hap hD0

theorem assign_compH {cl : List (Str × Addr)} {y : Str} {py spos : Pos} {Q : Flow → Shared → Prop} (hh : A.handled = none) (hclos : closureFor scope env = pure cl) (hcell : ∀ y ∈ scope.names, y.2 ≠ .cell) (hkind : scope.kind = .function)
    (hnames : ∀ y ∈ scope.names, y.2 = .local → scope.names.lookup y.1 = some .local)
    (hsw : swapsWith (.ListComp elt [⟨target, iter, ifs, 0⟩] scope pos) (some (.Name y py)) spos.line env = pure true)
    (h : wpAny (model prog w) A (eval iter env) (fun xv s₁ => Stop (∃ l vs hid J, ∃ (m : Str → Option Value), xv = .ref l ∧ (∃ o, s₁.heap.get? env.locals = some o) ∧ CompH prog w A env elt target ifs scope cl l vs hid J s₁ ∧
      (∀ ys nx (h' : Heap), J vs.length ys nx → (∀ b o, (hideAll s₁.heap (hid.map (·.1))).get? b = some o → h'.get? b = some o) → (∀ p ∈ nx, h'.get? p.1 = some p.2) → h'.Ns env.locals m) ∧
      ∀ D ys k nx (h' : Heap) tk, J vs.length ys nx → h'.Ns env.locals (fun z => if z = y then some (.ref D) else m z) → (∀ b o, b ≠ env.locals → (hideAll s₁.heap (hid.map (·.1))).get? b = some o → h'.get? b = some o) → (∀ p ∈ (D, W.listOf ys.toArray k) :: nx, (hideAll s₁.heap (hid.map (·.1))).get? p.1 = none ∧ (p.1 ≠ env.locals → h'.get? p.1 = some p.2)) → (∀ p ∈ nx, p.1 ≠ D) → s₁.heap.get? D = none →
        Q .next { s₁ with heap := h', toks := tk })) E s)
    (hy : env.kindOf y = some .local) (hp : (env.scope.kind == .class || (env.scope.kind == .module && env.locals != env.globals)) = false)
    (hs : ∀ x, foldedSetIterable iter env x = pure x := by intro _; rfl) :
    wpAny (model prog w) A (exec (.Assign [.Name y py] (.ListComp elt [⟨target, iter, ifs, 0⟩] scope pos) spos) env) Q E s := by
  rw [exec_Assign_Name_used _ _ _ _ hsw]
  refine wpAny_bind (wpAny_standAt (wpAny_bind ?_))
  show wpAny _ A (do let _ ← comprehension (.ListComp elt [⟨target, iter, ifs, 0⟩] scope pos) scope env _ (newList []) false (eval iter env) (some (assign (.Name y py) env))) _ _ s
  refine wpAny_bind (wpAny_mono (wpAny_comprehension_free (use := some (assign (.Name y py) env)) (Q := fun _ s' => Q .next s') rfl hs hclos hkind hnames
    (wpAny_mono h (fun xv s₁ h₁ => ?_) fun _ _ e => e)) (fun _ s' hq => wpAny_pure (wpAny_pure hq)) fun _ _ e => e)
  obtain ⟨l, vs, hid, J, m, rfl, ⟨oL, hoL⟩, hc, hNs, fin⟩ := h₁
  refine comp_blockH (RR := fun acc C => compPost (model prog w) A E (some (assign (.Name y py) env)) (fun _ s' => Q .next s') acc C) hh hcell hkind hc ?_
  intro D C ys k nx mC h' tk hJ hCD hC hD0 hns hg hN hap
  have hLC : env.locals ≠ C := by rintro e; rw [e, hC] at hoL; cases hoL
  show wpAny _ A (assign (.Name y py) env (.ref D)) _ _ _
  refine wpAny_assign_Name (wpAny_storeName_local hy (hNs ys nx h' hJ hg fun p hp => (hN p (.tail _ hp)).1) (fun h₂ hn₂ hs₂ => ?_) hp)
  refine ⟨mC, hns.at' fun o e => hs₂.extBut _ _ hLC.symm e, fun h₃ hs₃ => ?_⟩
  refine fin D ys k nx h₃ _ hJ (hn₂.at' fun o e => hs₃.extBut _ _ hLC e) (fun b o hb e => hs₃.extBut b o (fun q => by have e' := of_hideAll _ e; rw [q, hC] at e'; cases e') (hs₂.extBut b o hb (hg b o e))) (fun p hp => ⟨(hN p hp).2.1, fun hpL => ?_⟩) hap hD0
  exact hs₃.extBut _ _ (hN p hp).2.2 (hs₂.extBut _ _ hpL (hN p hp).1)
end
end Mine

set_option maxHeartbeats 400000
set_option Elab.async false
set_option maxRecDepth 100000
namespace Mine
open PySem PySem.Calls PyProof.Rows PySem.W
section
variable {prog : Program} {w : World} {A : Around} {E : Value → Shared → Prop} {s : Shared} {env : Env} {R : Result → Shared → Prop} {elt t0 i0 t1 i1 : Expr} {scope : Scope} {pos : Pos}
theorem compTurn2_0 (it acc : Value) : compTurn (.ListComp elt [⟨t0, i0, [], 0⟩, ⟨t1, i1, [], 0⟩] scope pos) 0 it acc env = (standAt i0.pos >>= fun _ => pyNext it >>= fun r => match r with
    | none => pure (.done .next)
    | some v => letOwnedTupleGo t0 it v >>= fun _ => assign t0 env v >>= fun _ =>
      eval i1 env >>= fun x => standAt i1.pos >>= fun _ => foldedSetIterable i1 env x >>= fun x => holding [x] (pyIter x) >>= fun it1 => runOwn (.compStart (.ListComp elt [⟨t0, i0, [], 0⟩, ⟨t1, i1, [], 0⟩] scope pos) 1 it1 acc env) env >>= fun _ =>
        again (.compLoop (.ListComp elt [⟨t0, i0, [], 0⟩, ⟨t1, i1, [], 0⟩] scope pos) 0 it acc env)) := by rfl
theorem compTurn2_1 (it acc : Value) : compTurn (.ListComp elt [⟨t0, i0, [], 0⟩, ⟨t1, i1, [], 0⟩] scope pos) 1 it acc env = (standAt i1.pos >>= fun _ => pyNext it >>= fun r => match r with
    | none => pure (.done .next)
    | some v => letOwnedTupleGo t1 it v >>= fun _ => assign t1 env v >>= fun _ =>
      (eval elt env >>= fun x => call (.builtin "list.append") [acc, x] >>= fun _ => pure ()) >>= fun _ =>
        again (.compLoop (.ListComp elt [⟨t0, i0, [], 0⟩, ⟨t1, i1, [], 0⟩] scope pos) 1 it acc env)) := by rfl
theorem compStart2_1 {it acc : Value}
    (h0 : codeAny (model prog w) A (.compLoop (.ListComp elt [⟨t0, i0, [], 0⟩, ⟨t1, i1, [], 0⟩] scope pos) 1 it acc env) R s)
    (h : wpAny (model prog w) A (pyIter it) (fun it' s' => codeAny (model prog w) A (.compLoop (.ListComp elt [⟨t0, i0, [], 0⟩, ⟨t1, i1, [], 0⟩] scope pos) 1 it' acc env) R s') (notedBy (model prog w) A env fun x s' => R (.error x) s') s) :
    codeAny (model prog w) A (.compStart (.ListComp elt [⟨t0, i0, [], 0⟩, ⟨t1, i1, [], 0⟩] scope pos) 1 it acc env) R s := by
  refine codeAny_of_tree ?_
  show wpAny _ _ ((compStart (.ListComp elt [⟨t0, i0, [], 0⟩, ⟨t1, i1, [], 0⟩] scope pos) 1 it acc env).onRaise (fun x => do noteFrame x env; standAt theWindowsPlace)) _ _ s
  refine wpAny_notedAt ?_
  unfold compStart
  show wpAny _ _ (ask >>= _) _ _ s
  refine wpAny_bind (wpAny_askSetting (wpAny_ite ?_))
  split
  · first
      | exact wpAny_bind (wpAny_pure (wpAny_pure (And.intro rfl h0)))
      | exact wpAny_pure (And.intro rfl h0)
  · first
      | exact wpAny_bind (wpAny_rule (wpAny_bind (wpAny_standAt (wpAny_bind (wpAny_mono h (fun it' s' h' => wpAny_pure (And.intro rfl h')) fun _ _ x => x)))))
      | (refine wpAny_bind (wpAny_rule ?_); show wpAny _ _ (standAt i1.pos >>= _) _ _ s; exact wpAny_bind (wpAny_standAt (wpAny_bind (wpAny_mono h (fun it' s' h' => wpAny_pure (And.intro rfl h')) fun _ _ x => x))))

/-- the inner list of a comprehension of two clauses -/
theorem inner_loop {g : Heap} {x y : Str} {py px' py' : Pos} {a J D I : Addr} {xs ys : List Value} {m₀ : Str → Option Value} {oI : Obj} {c₀ : Nat} (hh : A.handled = none) (hk : env.scope.kind = .function) (hy : env.kindOf y = some .local) (hyd : (y == ("__debug__" : Str)) = false)
    (F : Fr g env.locals s.heap m₀) (ha : g.IsList a xs.toArray) (hJ : s.heap.IsListIter J a 0) (hJC : J ≠ env.locals) (hJ0 : g.get? J = none) (hJD : J ≠ D) (hJI : J ≠ I) (hI : s.heap.get? I = some oI) (hIC : I ≠ env.locals) (hID : I ≠ D)
    (hD : s.heap.get? D = some (W.listOf ys.toArray c₀)) (hDC : D ≠ env.locals) (hD0 : g.get? D = none) (hz : ys.length + xs.length ≤ 1000000)
    (done : ∀ h tk m c, Fr g env.locals h m → h.get? I = some oI → h.get? D = some (W.listOf (ys ++ xs).toArray c) → R (.ok .next) { s with heap := h, toks := tk }) :
    codeAny (model prog w) A (.compLoop (.ListComp (.Name y py) [⟨t0, i0, [], 0⟩, ⟨.Name y py', .Name x px', [], 0⟩] scope pos) 1 (.ref J) (.ref D) env) R s := by
  refine codeAny_loop rfl (fun n s' => ∃ j h tk m c, s' = { s with heap := h, toks := tk } ∧ j + n = xs.length ∧ h.IsListIter J a j ∧ Fr g env.locals h m ∧ h.get? I = some oI ∧ h.get? D = some (W.listOf (ys ++ xs.take j).toArray c)) ?_ xs.length ⟨0, s.heap, s.toks, m₀, c₀, rfl, Nat.zero_add _, hJ, F, hI, by rw [List.take_zero, List.append_nil]; exact hD⟩
  rintro n s' ⟨j, h, tk, m, c, rfl, hjn, hit, F', hI', hD'⟩
  show wpAny _ A ((compTurn (.ListComp (.Name y py) [⟨t0, i0, [], 0⟩, ⟨.Name y py', .Name x px', [], 0⟩] scope pos) 1 (.ref J) (.ref D) env).onRaise (fun x => do noteFrame x env; theTreesLotGoes x)) _ _ _
  refine wpAny_noted ?_
  rw [compTurn2_1]
  refine wpAny_bind (wpAny_standAt (wpAny_bind ?_))
  have hL : h.IsList a xs.toArray := ha.at (F'.keep a)
  cases hv : xs[j]? with
  | none =>
    have hi : j = xs.length := by have := List.getElem?_eq_none_iff.mp hv; omega
    refine wpAny_pyNext_list_end hh hit hL (by simpa using hv) fun h' hx => wpAny_pure ?_
    subst hi
    rw [List.take_length] at hD'
    exact done h' tk m c ⟨F'.ns.extBut hx hJC.symm, fun b o' e => hx b o' (fun q => by rw [q, hJ0] at e; cases e) (F'.keep b o' e), F'.above⟩ (hx _ _ hJI.symm hI') (hx _ _ hJD.symm hD')
  | some v =>
    refine wpAny_pyNext_list_item hit hL (by simpa using hv) fun h' hit' hs => ?_
    obtain ⟨o', ho', hc', hd'⟩ := id hit'
    refine wpAny_bind (owned_go ho' hc' ?_)
    have F'' : Fr g env.locals h' m := ⟨F'.ns.extBut hs.extBut hJC.symm, fun b o' e => hs.extBut b o' (fun q => by rw [q, hJ0] at e; cases e) (F'.keep b o' e), F'.above⟩
    refine wpAny_bind (wpAny_assign_Name (wpAny_storeName_local hy F''.ns (fun h₂ hn₂ hs₂ => ?_) (by rw [hk]; rfl)))
    have F2 : Fr g env.locals h₂ (fun z => if z = y then some v else m z) := ⟨hn₂, fun b o e => hs₂.extBut b o (fun q => by rw [q] at e; exact Nat.lt_irrefl _ (Nat.lt_of_lt_of_le (Heap.lt_size e) F''.above)) (F''.keep b o e), F''.above⟩
    refine wpAny_bind (wpAny_bind (name_in (v := v) (s := { s with heap := h₂, toks := tk + 1 }) F2 hk hy (if_pos rfl) ?_ hyd))
    have hD2 : h₂.get? D = some (W.listOf (ys ++ xs.take j).toArray c) := hs₂.extBut _ _ hDC (hs.extBut _ _ hJD.symm hD')
    have hjl : j < xs.length := (List.getElem?_eq_some_iff.mp hv).1
    refine wpAny_bind (append_at (s := { s with heap := h₂, toks := tk + 1 }) (hsz := by rw [List.size_toArray, sizeLine_eq, List.length_append, List.length_take]; omega) hD2 fun h4 hs4 ho4 => wpAny_pure (wpAny_pure ⟨rfl, n - 1, by omega, j + 1, h4, tk + 1, _, c + 1, rfl, by omega, ⟨o', hs4.extBut _ _ hJD (hs₂.extBut _ _ hJC ho'), hc', hd'⟩, F2.change hs4 hDC hD0, hs4.extBut _ _ hID (hs₂.extBut _ _ hIC (hs.extBut _ _ hJI.symm hI')), ?_⟩))
    rw [ho4, show xs.take (j + 1) = xs.take j ++ [v] by rw [List.take_add_one, hv]; rfl, ← List.append_assoc, ← List.push_toArray]

/-- the outer list -/
theorem outer_loop {g : Heap} {x y : Str} {px py px' py' : Pos} {l D I : Addr} {vs : List Value} {xss : List (List Value)} {m₀ : Str → Option Value} (hh : A.handled = none) (hk : env.scope.kind = .function) (hy : env.kindOf y = some .local) (hyd : (y == ("__debug__" : Str)) = false) (hx : env.kindOf x = some .local) (hxd : (x == ("__debug__" : Str)) = false)
    (F : Fr g env.locals s.heap m₀) (hl : g.IsList l vs.toArray) (hrows : ∀ (i : Nat) (v : Value), vs[i]? = some v → ∃ (a : Addr) (xs : List Value), v = .ref a ∧ xss[i]? = some xs ∧ g.IsList a xs.toArray) (hlen : vs.length = xss.length) (hI : s.heap.IsListIter I l 0) (hIC : I ≠ env.locals) (hI0 : g.get? I = none) (hID : I ≠ D)
    (hD : s.heap.get? D = some (W.listOf #[] 0)) (hDC : D ≠ env.locals) (hD0 : g.get? D = none) (hz : xss.flatten.length ≤ 1000000)
    (done : ∀ h tk m c, Fr g env.locals h m → h.get? D = some (W.listOf xss.flatten.toArray c) → R (.ok .next) { s with heap := h, toks := tk }) :
    codeAny (model prog w) A (.compLoop (.ListComp (.Name y py) [⟨.Name x px, i0, [], 0⟩, ⟨.Name y py', .Name x px', [], 0⟩] scope pos) 0 (.ref I) (.ref D) env) R s := by
  refine codeAny_loop rfl (fun n s' => ∃ i h tk m c, s' = { s with heap := h, toks := tk } ∧ i + n = vs.length ∧ h.IsListIter I l i ∧ Fr g env.locals h m ∧ h.get? D = some (W.listOf (xss.take i).flatten.toArray c)) ?_ vs.length ⟨0, s.heap, s.toks, m₀, 0, rfl, Nat.zero_add _, hI, F, hD⟩
  rintro n s' ⟨i, h, tk, m, c, rfl, hin, hit, F', hD'⟩
  show wpAny _ A ((compTurn (.ListComp (.Name y py) [⟨.Name x px, i0, [], 0⟩, ⟨.Name y py', .Name x px', [], 0⟩] scope pos) 0 (.ref I) (.ref D) env).onRaise (fun x => do noteFrame x env; theTreesLotGoes x)) _ _ _
  refine wpAny_noted ?_
  rw [compTurn2_0]
  refine wpAny_bind (wpAny_standAt (wpAny_bind ?_))
  have hL : h.IsList l vs.toArray := hl.at (F'.keep l)
  cases hv : vs[i]? with
  | none =>
    have hi : i = vs.length := by have := List.getElem?_eq_none_iff.mp hv; omega
    refine wpAny_pyNext_list_end hh hit hL (by simpa using hv) fun h' hx' => wpAny_pure ?_
    subst hi
    rw [hlen, List.take_length] at hD'
    exact done h' tk m c ⟨F'.ns.extBut hx' hIC.symm, fun b o' e => hx' b o' (fun q => by rw [q, hI0] at e; cases e) (F'.keep b o' e), F'.above⟩ (hx' _ _ hID.symm hD')
  | some v =>
    obtain ⟨a, xs, rfl, hxs, hax⟩ := hrows i v hv
    refine wpAny_pyNext_list_item hit hL (by simpa using hv) fun h' hit' hs => ?_
    obtain ⟨o', ho', hc', hd'⟩ := id hit'
    refine wpAny_bind (owned_go ho' hc' ?_)
    have F'' : Fr g env.locals h' m := ⟨F'.ns.extBut hs.extBut hIC.symm, fun b o' e => hs.extBut b o' (fun q => by rw [q, hI0] at e; cases e) (F'.keep b o' e), F'.above⟩
    refine wpAny_bind (wpAny_assign_Name (wpAny_storeName_local hx F''.ns (fun h₂ hn₂ hs₂ => ?_) (by rw [hk]; rfl)))
    have F2 : Fr g env.locals h₂ (fun z => if z = x then some (.ref a) else m z) := ⟨hn₂, fun b o e => hs₂.extBut b o (fun q => by rw [q] at e; exact Nat.lt_irrefl _ (Nat.lt_of_lt_of_le (Heap.lt_size e) F''.above)) (F''.keep b o e), F''.above⟩
    refine wpAny_bind (name_in (v := .ref a) (s := { s with heap := h₂, toks := tk + 1 }) F2 hk hx (if_pos rfl) ?_ hxd)
    refine wpAny_bind (wpAny_standAt (wpAny_bind (wpAny_of_eq (a := Value.ref a) rfl (wpAny_bind (wpAny_holding (wpAny_pyIter_list (s := { s with heap := h₂, toks := tk + 1 }) (hax.at (F2.keep a)) ?_))))))
    have hD2 : h₂.get? D = some (W.listOf (xss.take i).flatten.toArray c) := hs₂.extBut _ _ hDC (hs.extBut _ _ hID.symm hD')
    have hI2 : h₂.get? I = some o' := hs₂.extBut _ _ hIC ho'
    have hLs : env.locals < h₂.objs.size := F2.ns.lt
    have hil : i < xss.length := (List.getElem?_eq_some_iff.mp hxs).1
    have hsum : ((xss.take i).flatten.length) + xs.length ≤ 1000000 := by
      have e1 : xss = xss.take i ++ xs :: xss.drop (i + 1) := by
        have := (List.take_append_drop i xss).symm
        rw [List.drop_eq_getElem_cons hil, (List.getElem?_eq_some_iff.mp hxs).2] at this
        exact this
      have e2 := congrArg (fun z => z.flatten.length) e1
      simp only [List.flatten_append, List.flatten_cons, List.length_append] at e2
      omega
    have start : ∀ s₃ : Shared, s₃ = { s with heap := h₂.push { cls := .type "list_iterator", data := .fields #[.ref a, .int 0 0] }, toks := tk + 1 } → ∀ RR : Result → Shared → Prop, (∀ h3 tk3 m3 c3, Fr g env.locals h3 m3 → h3.get? I = some o' → h3.get? D = some (W.listOf ((xss.take i).flatten ++ xs).toArray c3) → RR (.ok .next) { s with heap := h3, toks := tk3 }) →
        codeAny (model prog w) A (.compLoop (.ListComp (.Name y py) [⟨.Name x px, i0, [], 0⟩, ⟨.Name y py', .Name x px', [], 0⟩] scope pos) 1 (.ref h₂.objs.size) (.ref D) env) RR s₃ := by
      rintro s₃ rfl RR hRR
      exact inner_loop (t0 := .Name x px) (i0 := i0) (g := g) hh hk hy hyd (F2.push _) hax ⟨_, Heap.get?_push_size _ rfl, rfl, rfl⟩ (Nat.ne_of_gt hLs) (Heap.get?_none_of_le (Nat.le_trans F2.above (Nat.le_of_lt hLs))) (Nat.ne_of_gt (Heap.lt_size hD2)) (Nat.ne_of_gt (Heap.lt_size hI2)) (Heap.get?_push_of_some _ hI2) hIC hID (Heap.get?_push_of_some _ hD2) hDC hD0 hsum hRR
    have fin : ∀ h3 tk3 m3 c3, Fr g env.locals h3 m3 → h3.get? I = some o' → h3.get? D = some (W.listOf ((xss.take i).flatten ++ xs).toArray c3) →
        ∃ m', m' < n ∧ ∃ i h tk m c, ({ s with heap := h3, toks := tk3 } : Shared) = { s with heap := h, toks := tk } ∧ i + m' = vs.length ∧ h.IsListIter I l i ∧ Fr g env.locals h m ∧ h.get? D = some (W.listOf (xss.take i).flatten.toArray c) := by
      intro h3 tk3 m3 c3 F3 hI3 hD3
      refine ⟨n - 1, ?_, i + 1, h3, tk3, m3, c3, rfl, (by have := (List.getElem?_eq_some_iff.mp hv).1; show i + 1 + (n - 1) = _; omega), ⟨o', hI3, hc', hd'⟩, F3, ?_⟩
      · have := (List.getElem?_eq_some_iff.mp hv).1; omega
      · rw [hD3, show xss.take (i + 1) = xss.take i ++ [xs] by rw [List.take_add_one, hxs]; rfl]
        simp
    refine wpAny_bind (wpAny_runOwn (h := none) (compStart2_1 (start _ rfl _ fun h3 tk3 m3 c3 F3 hI3 hD3 => wpAny_pure ⟨rfl, fin h3 tk3 m3 c3 F3 hI3 hD3⟩) (wpAny_pyIter_listiter (i := 0) (l := a) ⟨_, Heap.get?_push_size _ rfl, rfl, rfl⟩ (start _ rfl _ fun h3 tk3 m3 c3 F3 hI3 hD3 => wpAny_pure ⟨rfl, fin h3 tk3 m3 c3 F3 hI3 hD3⟩))))

theorem comp2_block {cl : List (Str × Addr)} {x y : Str} {px py px' py' : Pos} {l : Addr} {vs : List Value} {xss : List (List Value)} {RR : Value → Addr → Result → Shared → Prop} (hh : A.handled = none) (hcell : ∀ y ∈ scope.names, y.2 ≠ .cell) (hkind : scope.kind = .function)
    (hx : ∀ C, (compEnvC scope cl C env).kindOf x = some .local) (hy : ∀ C, (compEnvC scope cl C env).kindOf y = some .local) (hxd : (x == ("__debug__" : Str)) = false) (hyd : (y == ("__debug__" : Str)) = false)
    (hl : s.heap.IsList l vs.toArray) (hrows : ∀ (i : Nat) (v : Value), vs[i]? = some v → ∃ (a : Addr) (xs : List Value), v = .ref a ∧ xss[i]? = some xs ∧ s.heap.IsList a xs.toArray) (hlen : vs.length = xss.length) (hz : xss.flatten.length ≤ 1000000)
    (hRR : ∀ D C k m h' tk, C ≠ D → s.heap.get? C = none → s.heap.get? D = none → h'.Ns C m → Grows s.heap h' → h'.get? D = some (W.listOf xss.flatten.toArray k) → RR (.ref D) C (.ok .next) { s with heap := h', toks := tk }) :
    wpAny (model prog w) A (pyIter (.ref l)) (fun it s₂ => wpAny (model prog w) A (newList []) (fun acc s₃ => wpAny (model prog w) A (newFunctionEnv scope env.globals cl [] env.qual none .none (some env)) (fun cenv s₄ =>
      codeAny (model prog w) A (.compStart (.ListComp (.Name y py) [⟨.Name x px, i0, [], 0⟩, ⟨.Name y py', .Name x px', [], 0⟩] scope pos) 0 it acc { cenv with scope := relabel scope env }) (RR acc cenv.locals) s₄) E s₃) E s₂) E s := by
  have hlt : l < s.heap.objs.size := by obtain ⟨_, e, _⟩ := hl; exact Heap.lt_size e
  refine wpAny_pyIter_list hl ?_
  have hz1 : (s.heap.push { cls := .type "list_iterator", data := .fields #[.ref l, .int 0 0] }).objs.size = s.heap.objs.size + 1 := Heap.size_push _ _
  have hI1 : (s.heap.push { cls := .type "list_iterator", data := .fields #[.ref l, .int 0 0] }).IsListIter s.heap.objs.size l 0 := ⟨_, Heap.get?_push_size _ rfl, rfl, rfl⟩
  have keep1 : Grows s.heap (s.heap.push { cls := .type "list_iterator", data := .fields #[.ref l, .int 0 0] }) := Grows.push _ _
  generalize s.heap.push { cls := .type "list_iterator", data := .fields #[.ref l, .int 0 0] } = H1 at hz1 hI1 keep1 ⊢
  refine wpAny_newObj_type (wpAny_newFunctionEnv hcell (by intro y hy; simp at hy) (fun h₁ hns₁ hsb₁ => ?_) hkind)
  dsimp only at hns₁ hsb₁ ⊢
  have hz2 : (H1.push { cls := .type "list", dict := none, data := .seq ([] : List Value).toArray }).objs.size = H1.objs.size + 1 := Heap.size_push _ _
  have hD1 : (H1.push { cls := .type "list", dict := none, data := .seq ([] : List Value).toArray }).get? H1.objs.size = some (W.listOf #[] 0) := Heap.get?_push_size _ rfl
  have keep2 : Grows H1 (H1.push { cls := .type "list", dict := none, data := .seq ([] : List Value).toArray }) := Grows.push _ _
  generalize H1.push { cls := .type "list", dict := none, data := .seq ([] : List Value).toArray } = H2 at hz2 hD1 keep2 hns₁ hsb₁ ⊢
  have keep3 : Grows H2 h₁ := fun b o e => hsb₁.extBut b o (Nat.ne_of_lt (Heap.lt_size e)) (Heap.get?_push_of_some _ e)
  have fresh : ∀ a, s.heap.objs.size ≤ a → s.heap.get? a = none := fun a ha => Heap.get?_none_of_le ha
  have hCD : H2.objs.size ≠ H1.objs.size := by omega
  have hC0 : s.heap.get? H2.objs.size = none := fresh _ (by omega)
  have hD0 : s.heap.get? H1.objs.size = none := fresh _ (by omega)
  have G1 : Grows s.heap h₁ := keep1.trans (keep2.trans keep3)
  have F1 : Fr s.heap H2.objs.size h₁ (fun x => List.lookup x ([] : List (Str × Value)).reverse) := ⟨hns₁, G1, by omega⟩
  have I3 : h₁.IsListIter s.heap.objs.size l 0 := hI1.at fun o e => keep3 _ _ (keep2 _ _ e)
  have loop : ∀ s₃ : Shared, s₃ = { s with heap := h₁, toks := s.toks + ([] : List (Str × Value)).length } →
      codeAny (model prog w) A (.compLoop (.ListComp (.Name y py) [⟨.Name x px, i0, [], 0⟩, ⟨.Name y py', .Name x px', [], 0⟩] scope pos) 0 (.ref s.heap.objs.size) (.ref H1.objs.size) (compEnvC scope cl H2.objs.size env))
        (RR (.ref H1.objs.size) H2.objs.size) s₃ := by
    rintro s₃ rfl
    refine outer_loop (env := compEnvC scope cl H2.objs.size env) (g := s.heap) (vs := vs) (l := l) (xss := xss) hh hkind (hy _) hyd (hx _) hxd F1 hl hrows hlen I3 (show s.heap.objs.size ≠ H2.objs.size by omega) (fresh _ (Nat.le_refl _)) (show s.heap.objs.size ≠ H1.objs.size by omega) (keep3 _ _ hD1) (show H1.objs.size ≠ H2.objs.size by omega) hD0 hz ?_
    intro h tk m c F hD
    exact hRR H1.objs.size H2.objs.size c m h tk hCD hC0 hD0 F.ns F.keep hD
  exact codeAny_compStart_list (loop _ rfl) (wpAny_pyIter_listiter I3 (loop _ rfl))

/-- what a comprehension of two clauses is to bring -/
structure Comp2 (l : Addr) (vs : List Value) (xss : List (List Value)) (h : Heap) : Prop where
  list : h.IsList l vs.toArray
  rows : ∀ (i : Nat) (v : Value), vs[i]? = some v → ∃ (a : Addr) (xs : List Value), v = .ref a ∧ xss[i]? = some xs ∧ h.IsList a xs.toArray
  len : vs.length = xss.length
  short : xss.flatten.length ≤ 1000000

theorem list_comp2 {cl : List (Str × Addr)} {x y : Str} {px py px' py' : Pos} {Q : Value → Shared → Prop} (hh : A.handled = none) (hclos : closureFor scope env = pure cl) (hcell : ∀ y ∈ scope.names, y.2 ≠ .cell) (hkind : scope.kind = .function)
    (hnames : ∀ y ∈ scope.names, y.2 = .local → scope.names.lookup y.1 = some .local) (hx : ∀ C, (compEnvC scope cl C env).kindOf x = some .local) (hy : ∀ C, (compEnvC scope cl C env).kindOf y = some .local) (hxd : (x == ("__debug__" : Str)) = false) (hyd : (y == ("__debug__" : Str)) = false)
    (h : wpAny (model prog w) A (eval i0 env) (fun xv s₁ => Stop (∃ l vs xss, xv = .ref l ∧ Comp2 l vs xss s₁.heap ∧ ∀ D k (h' : Heap) tk, Grows s₁.heap h' → h'.get? D = some (W.listOf xss.flatten.toArray k) → s₁.heap.get? D = none → Q (.ref D) { s₁ with heap := h', toks := tk })) E s)
    (hs : ∀ x, foldedSetIterable i0 env x = pure x := by intro _; rfl) :
    wpAny (model prog w) A (eval (.ListComp (.Name y py) [⟨.Name x px, i0, [], 0⟩, ⟨.Name y py', .Name x px', [], 0⟩] scope pos) env) Q E s := by
  rw [eval_ListComp]
  refine wpAny_comprehension_free (use := none) rfl hs hclos hkind hnames (wpAny_mono h (fun xv s₁ h₁ => ?_) fun _ _ e => e)
  obtain ⟨l, vs, xss, rfl, hc, fin⟩ := h₁
  refine comp2_block (RR := fun acc C => compPost (model prog w) A E none Q acc C) hh hcell hkind hx hy hxd hyd hc.list hc.rows hc.len hc.short ?_
  intro D C k m h' tk hCD hC hD0 hns hg hN
  refine ⟨m, hns, fun h'' hs' => ?_⟩
  exact fin D k h'' tk (fun b o e => hs'.extBut b o (fun q => by rw [q, hC] at e; cases e) (hg b o e)) (hs'.extBut _ _ hCD.symm hN) hD0

theorem assign_comp2 {cl : List (Str × Addr)} {x y z : Str} {px py px' py' pz spos : Pos} {Q : Flow → Shared → Prop} (hh : A.handled = none) (hclos : closureFor scope env = pure cl) (hcell : ∀ y ∈ scope.names, y.2 ≠ .cell) (hkind : scope.kind = .function)
    (hnames : ∀ y ∈ scope.names, y.2 = .local → scope.names.lookup y.1 = some .local) (hx : ∀ C, (compEnvC scope cl C env).kindOf x = some .local) (hy : ∀ C, (compEnvC scope cl C env).kindOf y = some .local) (hxd : (x == ("__debug__" : Str)) = false) (hyd : (y == ("__debug__" : Str)) = false)
    (hsw : swapsWith (.ListComp (.Name y py) [⟨.Name x px, i0, [], 0⟩, ⟨.Name y py', .Name x px', [], 0⟩] scope pos) (some (.Name z pz)) spos.line env = pure true)
    (h : wpAny (model prog w) A (eval i0 env) (fun xv s₁ => Stop (∃ l vs xss, ∃ (m : Str → Option Value), xv = .ref l ∧ s₁.heap.Ns env.locals m ∧ Comp2 l vs xss s₁.heap ∧ ∀ D k (h' : Heap) tk, h'.Ns env.locals (fun u => if u = z then some (.ref D) else m u) → (∀ b o, b ≠ env.locals → s₁.heap.get? b = some o → h'.get? b = some o) → h'.get? D = some (W.listOf xss.flatten.toArray k) → s₁.heap.get? D = none → Q .next { s₁ with heap := h', toks := tk })) E s)
    (hz : env.kindOf z = some .local) (hp : (env.scope.kind == .class || (env.scope.kind == .module && env.locals != env.globals)) = false)
    (hs : ∀ x, foldedSetIterable i0 env x = pure x := by intro _; rfl) :
    wpAny (model prog w) A (exec (.Assign [.Name z pz] (.ListComp (.Name y py) [⟨.Name x px, i0, [], 0⟩, ⟨.Name y py', .Name x px', [], 0⟩] scope pos) spos) env) Q E s := by
  rw [exec_Assign_Name_used _ _ _ _ hsw]
  refine wpAny_bind (wpAny_standAt (wpAny_bind ?_))
  show wpAny _ A (do let _ ← comprehension (.ListComp (.Name y py) [⟨.Name x px, i0, [], 0⟩, ⟨.Name y py', .Name x px', [], 0⟩] scope pos) scope env _ (newList []) false (eval i0 env) (some (assign (.Name z pz) env))) _ _ s
  refine wpAny_bind (wpAny_mono (wpAny_comprehension_free (use := some (assign (.Name z pz) env)) (Q := fun _ s' => Q .next s') rfl hs hclos hkind hnames
    (wpAny_mono h (fun xv s₁ h₁ => ?_) fun _ _ e => e)) (fun _ s' hq => wpAny_pure (wpAny_pure hq)) fun _ _ e => e)
  obtain ⟨l, vs, xss, m, rfl, hn, hc, fin⟩ := h₁
  refine comp2_block (RR := fun acc C => compPost (model prog w) A E (some (assign (.Name z pz) env)) (fun _ s' => Q .next s') acc C) hh hcell hkind hx hy hxd hyd hc.list hc.rows hc.len hc.short ?_
  intro D C k mC h' tk hCD hC hD0 hns hg hN
  obtain ⟨oL, hoL⟩ : ∃ o, s₁.heap.get? env.locals = some o := by obtain ⟨o, _, _, ho, _⟩ := hn; exact ⟨o, ho⟩
  have hLC : env.locals ≠ C := by rintro e; rw [e, hC] at hoL; cases hoL
  have hLD : D ≠ env.locals := by rintro e; rw [e, hoL] at hD0; cases hD0
  show wpAny _ A (assign (.Name z pz) env (.ref D)) _ _ _
  refine wpAny_assign_Name (wpAny_storeName_local hz (hn.at' fun o e => hg _ o e) (fun h₂ hn₂ hs₂ => ?_) hp)
  refine ⟨mC, hns.at' fun o e => hs₂.extBut _ _ hLC.symm e, fun h₃ hs₃ => ?_⟩
  exact fin D k h₃ _ (hn₂.at' fun o e => hs₃.extBut _ _ hLC e) (fun b o hb e => hs₃.extBut b o (fun q => by rw [q, hC] at e; cases e) (hs₂.extBut b o hb (hg b o e))) (hs₃.extBut _ _ hCD.symm (hs₂.extBut _ _ hLD hN)) hD0
end
end Mine

set_option Elab.async false
set_option maxRecDepth 100000
set_option maxHeartbeats 400000
namespace Mine
open PySem PySem.Calls PyProof.Rows PySem.W PySem.Builtin.Re
/-- the state of law's frame: a cell, the two code tables with their codes, and data -/
structure LawSt (B : Heap) (L c : Addr) (co : Obj) (h : Heap) (m : Str → Option Value) (ps1 ps2 : Array Value) (e1 e2 dl : List (Addr × Obj)) : Prop where
  fr : Fr B L h m
  news : News B L h ((c, co) :: (82, tabObj ps1) :: (65, tabObj ps2) :: (e1 ++ (e2 ++ dl)))
  t1 : TabSt 57 50 lamQ ps1 e1
  t2 : TabSt 26 49 lamQ2 ps2 e2
  n1 : @Ne Nat c 82
  n2 : @Ne Nat c 65
  off : ∀ p ∈ e1 ++ (e2 ++ dl), @Ne Nat p.1 c ∧ @Ne Nat p.1 82 ∧ @Ne Nat p.1 65
  ap1 : ∀ p ∈ e1, ∀ q ∈ e2 ++ dl, @Ne Nat p.1 q.1
  ap2 : ∀ p ∈ e2, ∀ q ∈ dl, @Ne Nat p.1 q.1
namespace LawSt
variable {B : Heap} {L c : Addr} {co : Obj} {h h' : Heap} {m : Str → Option Value} {ps1 ps2 : Array Value} {e1 e2 dl : List (Addr × Obj)}
theorem nc (S : LawSt B L c co h m ps1 ps2 e1 e2 dl) : h.get? c = some co ∧ c ≠ L ∧ B.get? c = none := S.news _ (.head _)
theorem n82 (S : LawSt B L c co h m ps1 ps2 e1 e2 dl) : h.get? 82 = some (tabObj ps1) ∧ (82 : Addr) ≠ L ∧ B.get? 82 = none := S.news _ (.tail _ (.head _))
theorem n65 (S : LawSt B L c co h m ps1 ps2 e1 e2 dl) : h.get? 65 = some (tabObj ps2) ∧ (65 : Addr) ≠ L ∧ B.get? 65 = none := S.news _ (.tail _ (.tail _ (.head _)))
theorem ne1 (S : LawSt B L c co h m ps1 ps2 e1 e2 dl) : ∀ p ∈ e1, h.get? p.1 = some p.2 ∧ p.1 ≠ L ∧ B.get? p.1 = none := fun p hp => S.news _ (.tail _ (.tail _ (.tail _ (List.mem_append.mpr (.inl hp)))))
theorem ne2 (S : LawSt B L c co h m ps1 ps2 e1 e2 dl) : ∀ p ∈ e2, h.get? p.1 = some p.2 ∧ p.1 ≠ L ∧ B.get? p.1 = none := fun p hp => S.news _ (.tail _ (.tail _ (.tail _ (List.mem_append.mpr (.inr (List.mem_append.mpr (.inl hp)))))))
theorem nd (S : LawSt B L c co h m ps1 ps2 e1 e2 dl) : ∀ p ∈ dl, h.get? p.1 = some p.2 ∧ p.1 ≠ L ∧ B.get? p.1 = none := fun p hp => S.news _ (.tail _ (.tail _ (.tail _ (List.mem_append.mpr (.inr (List.mem_append.mpr (.inr hp)))))))
theorem here (S : LawSt B L c co h m ps1 ps2 e1 e2 dl) : ∃ o, h.get? L = some o := by obtain ⟨o, _, _, ho, _⟩ := S.fr.ns; exact ⟨o, ho⟩
theorem of (F : Fr B L h m) (c1 : h.get? c = some co ∧ c ≠ L ∧ B.get? c = none) (c2 : h.get? 82 = some (tabObj ps1) ∧ (82 : Addr) ≠ L ∧ B.get? 82 = none) (c3 : h.get? 65 = some (tabObj ps2) ∧ (65 : Addr) ≠ L ∧ B.get? 65 = none)
    (c4 : ∀ p ∈ e1, h.get? p.1 = some p.2 ∧ p.1 ≠ L ∧ B.get? p.1 = none) (c5 : ∀ p ∈ e2, h.get? p.1 = some p.2 ∧ p.1 ≠ L ∧ B.get? p.1 = none) (c6 : ∀ p ∈ dl, h.get? p.1 = some p.2 ∧ p.1 ≠ L ∧ B.get? p.1 = none) :
    News B L h ((c, co) :: (82, tabObj ps1) :: (65, tabObj ps2) :: (e1 ++ (e2 ++ dl))) := by
  intro p hp
  rcases List.mem_cons.mp hp with rfl | hp
  · exact c1
  · rcases List.mem_cons.mp hp with rfl | hp
    · exact c2
    · rcases List.mem_cons.mp hp with rfl | hp
      · exact c3
      · rcases List.mem_append.mp hp with hp | hp
        · exact c4 p hp
        · rcases List.mem_append.mp hp with hp | hp
          · exact c5 p hp
          · exact c6 p hp
/-- all stands, but for the frame's slots -/
theorem move (S : LawSt B L c co h m ps1 ps2 e1 e2 dl) {m' : Str → Option Value} (hns : h'.Ns L m') (k : ∀ b o, b ≠ L → h.get? b = some o → h'.get? b = some o) : LawSt B L c co h' m' ps1 ps2 e1 e2 dl := by
  have bL : ∀ b o, B.get? b = some o → b ≠ L := fun b o e q => Nat.lt_irrefl _ (Nat.lt_of_lt_of_le (Heap.lt_size (q ▸ e)) S.fr.above)
  exact { S with fr := ⟨hns, fun b o e => k b o (bL b o e) (S.fr.keep b o e), S.fr.above⟩, news := fun p hp => ⟨k _ _ (S.news p hp).2.1 (S.news p hp).1, (S.news p hp).2⟩ }
theorem grows (S : LawSt B L c co h m ps1 ps2 e1 e2 dl) (G : Grows h h') : LawSt B L c co h' m ps1 ps2 e1 e2 dl := by
  obtain ⟨oL, hoL⟩ := S.here
  exact S.move (S.fr.ns.at' fun o e => G _ _ e) fun b o _ e => G b o e
/-- more data -/
theorem more (S : LawSt B L c co h m ps1 ps2 e1 e2 dl) {add : List (Addr × Obj)} (g : Heap) (kg : ∀ p ∈ (c, co) :: (82, tabObj ps1) :: (65, tabObj ps2) :: (e1 ++ (e2 ++ dl)), ∃ o, g.get? p.1 = some o) (kb : ∀ b o, B.get? b = some o → ∃ o', g.get? b = some o')
    (ha : ∀ p ∈ add, h.get? p.1 = some p.2 ∧ p.1 ≠ L ∧ g.get? p.1 = none) : LawSt B L c co h m ps1 ps2 e1 e2 (add ++ dl) := by
  have fresh : ∀ p ∈ add, ∀ q ∈ (c, co) :: (82, tabObj ps1) :: (65, tabObj ps2) :: (e1 ++ (e2 ++ dl)), @Ne Nat p.1 q.1 := fun p hp q hq e => by
    obtain ⟨o, ho⟩ := kg q hq
    have := (ha p hp).2.2
    rw [show p.1 = q.1 from e, ho] at this; cases this
  refine ⟨S.fr, of S.fr S.nc S.n82 S.n65 S.ne1 S.ne2 ?_, S.t1, S.t2, S.n1, S.n2, ?_, ?_, ?_⟩
  · intro p hp
    rcases List.mem_append.mp hp with hp | hp
    · refine ⟨(ha p hp).1, (ha p hp).2.1, ?_⟩
      cases e : B.get? p.1 with
      | none => rfl
      | some o => obtain ⟨o', ho'⟩ := kb _ _ e; rw [(ha p hp).2.2] at ho'; cases ho'
    · exact S.nd p hp
  · intro p hp
    rcases List.mem_append.mp hp with hp | hp
    · exact S.off p (List.mem_append.mpr (.inl hp))
    · rcases List.mem_append.mp hp with hp | hp
      · exact S.off p (List.mem_append.mpr (.inr (List.mem_append.mpr (.inl hp))))
      · rcases List.mem_append.mp hp with hp | hp
        · exact ⟨fresh p hp _ (.head _), fresh p hp (82, tabObj ps1) (.tail _ (.head _)), fresh p hp (65, tabObj ps2) (.tail _ (.tail _ (.head _)))⟩
        · exact S.off p (List.mem_append.mpr (.inr (List.mem_append.mpr (.inr hp))))
  · intro p hp q hq
    rcases List.mem_append.mp hq with hq | hq
    · exact S.ap1 p hp q (List.mem_append.mpr (.inl hq))
    · rcases List.mem_append.mp hq with hq | hq
      · exact (fresh q hq p (.tail _ (.tail _ (.tail _ (List.mem_append.mpr (.inl hp)))))).symm
      · exact S.ap1 p hp q (List.mem_append.mpr (.inr hq))
  · intro p hp q hq
    rcases List.mem_append.mp hq with hq | hq
    · exact (fresh q hq p (.tail _ (.tail _ (.tail _ (List.mem_append.mpr (.inr (List.mem_append.mpr (.inl hp)))))))).symm
    · exact S.ap2 p hp q hq
end LawSt
section
variable {w : World} {p : Program} {loose : List Str} {mean : ExcName → Option Value} {mg mb : Str → Option Value} {dp un : Nat} {fr : Option (List Env)} {gd : Option (List Code)} {s : Shared} {Q E : Value → Shared → Prop}
variable {B : Heap} {L c : Addr} {co : Obj} {m : Str → Option Value} {ps1 ps2 : Array Value} {e1 e2 dl : List (Addr × Obj)}
theorem join_L {a : Addr} {rows : List (List Pr)} (X : (hd.heap_39 w.params).In B) (T : Top p loose mean mg mb B) (C : CodeHd B 86 82) (hd : dp + 2 < recursionLimit) (hu : un + 40 < cLine) (S : LawSt B L c co s.heap m ps1 ps2 e1 e2 dl)
    (D : DatIn dl (.ref a) (rowsD rows)) (hn : rows.length ≤ 16) (hn3 : ∀ r ∈ rows, r.length ≤ 3)
    (h : ∀ h' tk' t ps ext, LawSt B L c co h' m ps ps2 ext e2 dl → Q (.str (textS rows) t) { s with heap := h', toks := tk' }) :
    wpAny (model PySem.Challenge.rw_ik0003_01.row.prog w) (Ar dp fr gd un) (call (.ref 87) [.ref a]) Q E s := by
  have none1 : ∀ b ∈ 82 :: e1.map (·.1), B.get? b = none := by
    intro b hb
    rcases List.mem_cons.mp hb with rfl | hb
    · exact S.n82.2.2
    · obtain ⟨q, hq, rfl⟩ := List.mem_map.mp hb
      exact (S.ne1 q hq).2.2
  have kB := keep_hide S.fr.keep none1
  refine join_c (g := dl) (ext0 := e1) (ps0 := ps1) (fun b o e => kB b o (X b o e)) (T.keeps kB) (C.keeps kB) hd hu S.n82.1 (fun p hp => (S.ne1 p hp).1) (fun p hp => (S.off p (List.mem_append.mpr (.inl hp))).2.1) S.t1 (fun p hp => hideAll_get _ (S.nd p hp).1 ?_) D hn hn3 ?_
  · intro hb
    rcases List.mem_cons.mp hb with hb | hb
    · exact (S.off p (List.mem_append.mpr (.inr (List.mem_append.mpr (.inr hp))))).2.1 hb
    · obtain ⟨q, hq, e⟩ := List.mem_map.mp hb
      exact S.ap1 q hq p (List.mem_append.mpr (.inr hp)) e
  · intro h' tk' t ps ext k1 k2 k3 k4 ht hsame
    refine h h' tk' t ps ext ?_
    obtain ⟨oL, hoL⟩ := S.here
    have b82 : ∀ b o, B.get? b = some o → @Ne Nat b 82 := fun b o e q => by rw [show b = 82 from q, S.n82.2.2] at e; cases e
    have F' : Fr B L h' m := ⟨S.fr.ns.at' fun o e => k1 _ _ (Ne.symm S.n82.2.1) e, fun b o e => k1 b o (b82 b o e) (S.fr.keep b o e), S.fr.above⟩
    have old : ∀ q ∈ (c, co) :: (65, tabObj ps2) :: (e2 ++ dl), h'.get? q.1 = some q.2 ∧ q.1 ≠ L ∧ B.get? q.1 = none := by
      intro q hq
      rcases List.mem_cons.mp hq with rfl | hq
      · exact ⟨k1 _ _ S.n1 S.nc.1, S.nc.2⟩
      · rcases List.mem_cons.mp hq with rfl | hq
        · exact ⟨k1 _ _ (show @Ne Nat 65 82 by decide) S.n65.1, S.n65.2⟩
        · have z := S.news q (.tail _ (.tail _ (.tail _ (List.mem_append.mpr (.inr hq)))))
          exact ⟨k1 _ _ (S.off q (List.mem_append.mpr (.inr hq))).2.1 z.1, z.2⟩
    have fresh : ∀ p ∈ ext, (p.1 ≠ L ∧ B.get? p.1 = none) ∧ @Ne Nat p.1 c ∧ @Ne Nat p.1 65 ∧ ∀ q ∈ e2 ++ dl, @Ne Nat p.1 q.1 := by
      intro p hp
      rcases hsame with ⟨_, rfl⟩ | ⟨_, _, hf⟩
      · have o := S.off p (List.mem_append.mpr (.inl hp))
        exact ⟨(S.ne1 p hp).2, o.1, o.2.2, S.ap1 p hp⟩
      · have z := hf p hp
        refine ⟨⟨(fun e => by rw [e, hoL] at z; cases z), ?_⟩, (fun e => by rw [show p.1 = c from e, S.nc.1] at z; cases z), (fun e => by rw [show p.1 = 65 from e, S.n65.1] at z; cases z), fun q hq e => ?_⟩
        · cases e : B.get? p.1 with
          | none => rfl
          | some o => rw [S.fr.keep _ _ e] at z; cases z
        · rw [show p.1 = q.1 from e, (S.news q (.tail _ (.tail _ (.tail _ (List.mem_append.mpr (.inr hq)))))).1] at z; cases z
    refine ⟨F', LawSt.of F' (old _ (.head _)) ⟨k2, S.n82.2⟩ (old _ (.tail _ (.head _))) (fun p hp => ⟨k3 p hp, (fresh p hp).1⟩) (fun p hp => old p (.tail _ (.tail _ (List.mem_append.mpr (.inl hp))))) (fun p hp => old p (.tail _ (.tail _ (List.mem_append.mpr (.inr hp))))), ht, S.t2, S.n1, S.n2, ?_, fun p hp q hq => (fresh p hp).2.2.2 q hq, S.ap2⟩
    intro p hp
    rcases List.mem_append.mp hp with hp | hp
    · exact ⟨(fresh p hp).2.1, k4 p hp, (fresh p hp).2.2.1⟩
    · exact S.off p (List.mem_append.mpr (.inr hp))
theorem split_L {a : Addr} {tt : List (List (List Pr))} (X : (hd.heap_39 w.params).In B) (T : Top p loose mean mg mb B) (C : CodeHd B 69 65) (hd : dp + 2 < recursionLimit) (hu : un + 60 < cLine) (S : LawSt B L c co s.heap m ps1 ps2 e1 e2 dl)
    (D : DatIn dl (.ref a) (.list (tt.map fun rows => Dat.str (textS rows)))) (hn : tt.length ≤ 16) (hn2 : ∀ rows ∈ tt, rows.length ≤ 16 ∧ ∀ r ∈ rows, r.length ≤ 3)
    (h : ∀ h' tk' b add ps ext, LawSt B L c co h' m ps1 ps e1 ext dl → (∀ p ∈ add, h'.get? p.1 = some p.2 ∧ p.1 ≠ L ∧ B.get? p.1 = none) → DatIn add (.ref b) (rowsD (tt.flatMap fun rows => rows.filter fun r => !r.isEmpty)) → Q (.ref b) { s with heap := h', toks := tk' }) :
    wpAny (model PySem.Challenge.rw_ik0003_01.row.prog w) (Ar dp fr gd un) (call (.ref 70) [.ref a]) Q E s := by
  have none1 : ∀ b ∈ 65 :: e2.map (·.1), B.get? b = none := by
    intro b hb
    rcases List.mem_cons.mp hb with rfl | hb
    · exact S.n65.2.2
    · obtain ⟨q, hq, rfl⟩ := List.mem_map.mp hb
      exact (S.ne2 q hq).2.2
  have kB := keep_hide S.fr.keep none1
  refine split_c (g := dl) (ext0 := e2) (ps0 := ps2) (fun b o e => kB b o (X b o e)) (T.keeps kB) (C.keeps kB) hd hu S.n65.1 (fun p hp => (S.ne2 p hp).1) (fun p hp => (S.off p (List.mem_append.mpr (.inr (List.mem_append.mpr (.inl hp))))).2.2) S.t2 (fun p hp => hideAll_get _ (S.nd p hp).1 ?_) D hn hn2 ?_
  · intro hb
    rcases List.mem_cons.mp hb with hb | hb
    · exact (S.off p (List.mem_append.mpr (.inr (List.mem_append.mpr (.inr hp))))).2.2 hb
    · obtain ⟨q, hq, e⟩ := List.mem_map.mp hb
      exact S.ap2 q hq p hp e
  · intro h' tk' b add ps ext k1 ka D' k2 k3 k4 ht hsame
    obtain ⟨oL, hoL⟩ := S.here
    have b65 : ∀ b o, B.get? b = some o → @Ne Nat b 65 := fun b o e q => by rw [show b = 65 from q, S.n65.2.2] at e; cases e
    have F' : Fr B L h' m := ⟨S.fr.ns.at' fun o e => k1 _ _ (Ne.symm S.n65.2.1) e, fun b o e => k1 b o (b65 b o e) (S.fr.keep b o e), S.fr.above⟩
    have noL : ∀ b, s.heap.get? b = none → b ≠ L ∧ B.get? b = none := fun b z => by
      refine ⟨(fun e => by rw [e, hoL] at z; cases z), ?_⟩
      cases e : B.get? b with
      | none => rfl
      | some o => rw [S.fr.keep _ _ e] at z; cases z
    have old : ∀ q ∈ (c, co) :: (82, tabObj ps1) :: (e1 ++ dl), h'.get? q.1 = some q.2 ∧ q.1 ≠ L ∧ B.get? q.1 = none := by
      intro q hq
      rcases List.mem_cons.mp hq with rfl | hq
      · exact ⟨k1 _ _ S.n2 S.nc.1, S.nc.2⟩
      · rcases List.mem_cons.mp hq with rfl | hq
        · exact ⟨k1 _ _ (show @Ne Nat 82 65 by decide) S.n82.1, S.n82.2⟩
        · rcases List.mem_append.mp hq with hq | hq
          · exact ⟨k1 _ _ (S.off q (List.mem_append.mpr (.inl hq))).2.2 (S.ne1 q hq).1, (S.ne1 q hq).2⟩
          · exact ⟨k1 _ _ (S.off q (List.mem_append.mpr (.inr (List.mem_append.mpr (.inr hq))))).2.2 (S.nd q hq).1, (S.nd q hq).2⟩
    have fresh : ∀ p ∈ ext, (p.1 ≠ L ∧ B.get? p.1 = none) ∧ @Ne Nat p.1 c ∧ @Ne Nat p.1 82 ∧ (∀ q ∈ e1, @Ne Nat q.1 p.1) ∧ ∀ q ∈ dl, @Ne Nat p.1 q.1 := by
      intro p hp
      rcases hsame with ⟨_, rfl⟩ | ⟨_, _, hf⟩
      · have o := S.off p (List.mem_append.mpr (.inr (List.mem_append.mpr (.inl hp))))
        exact ⟨(S.ne2 p hp).2, o.1, o.2.1, fun q hq => S.ap1 q hq p (List.mem_append.mpr (.inl hp)), S.ap2 p hp⟩
      · have z := hf p hp
        refine ⟨noL _ z, (fun e => by rw [show p.1 = c from e, S.nc.1] at z; cases z), (fun e => by rw [show p.1 = 82 from e, S.n82.1] at z; cases z), fun q hq e => ?_, fun q hq e => ?_⟩
        · rw [show p.1 = q.1 from e.symm, (S.ne1 q hq).1] at z; cases z
        · rw [show p.1 = q.1 from e, (S.nd q hq).1] at z; cases z
    refine h h' tk' b add ps ext ⟨F', LawSt.of F' (old _ (.head _)) (old _ (.tail _ (.head _))) ⟨k2, S.n65.2⟩ (fun p hp => old p (.tail _ (.tail _ (List.mem_append.mpr (.inl hp))))) (fun p hp => ⟨k3 p hp, (fresh p hp).1⟩) (fun p hp => old p (.tail _ (.tail _ (List.mem_append.mpr (.inr hp))))), S.t1, ht, S.n1, S.n2, ?_, ?_, fun p hp q hq => (fresh p hp).2.2.2.2 q hq⟩ ?_ D'
    · intro p hp
      rcases List.mem_append.mp hp with hp | hp
      · exact S.off p (List.mem_append.mpr (.inl hp))
      · rcases List.mem_append.mp hp with hp | hp
        · exact ⟨(fresh p hp).2.1, (fresh p hp).2.2.1, k4 p hp⟩
        · exact S.off p (List.mem_append.mpr (.inr (List.mem_append.mpr (.inr hp))))
    · intro p hp q hq
      rcases List.mem_append.mp hq with hq | hq
      · exact (fresh q hq).2.2.2.1 p hp
      · exact S.ap1 p hp q (List.mem_append.mpr (.inr hq))
    · intro p hp
      refine ⟨(ka p hp).1, ?_⟩
      rcases (ka p hp).2.2 with z | ⟨q, hq, e⟩
      · exact noL _ z
      · rw [← e]; exact (S.ne2 q hq).2
theorem text_L {a : Addr} {rows : List (List Pr)} (X : (hd.heap_39 w.params).In B) (T : Top p loose mean mg mb B) (hd : dp + 1 < recursionLimit) (hu : un + 40 < cLine) (S : LawSt B L c co s.heap m ps1 ps2 e1 e2 dl)
    (D : DatIn dl (.ref a) (rowsD rows)) (hn : rows.length ≤ 16) (hn3 : ∀ r ∈ rows, r.length ≤ 3)
    (h : ∀ h' tk' t, LawSt B L c co h' m ps1 ps2 e1 e2 dl → Q (.str (textS rows) t) { s with heap := h', toks := tk' }) :
    wpAny (model PySem.Challenge.rw_ik0003_01.row.prog w) (Ar dp fr gd un) (call (.ref 143) [.ref a]) Q E s := by
  refine text_c (g := dl) (fun b o e => S.fr.keep b o (X b o e)) (T.keeps S.fr.keep) hd hu (fun p hp => (S.nd p hp).1) D hn hn3 fun h' tk' t G => h h' tk' t (S.grows G)
theorem below_law {A : Around} {env : Env} {h : Heap} (F : Fr B L h m) (hs : A.frames = some [env]) (hf : env.frame = some L) (hk : env.scope.kind = .function) : Below A B [env] h := by
  exact ⟨hs, F.keep, Heap.FunFrames.cons (by rw [hk]; decide) hf F.ns (Heap.get?_none_of_le F.above) trivial⟩
open Classical in
theorem filter_L {env : Env} {a b na nb : Nat} {va vb : List Value} {da db : List Dat} (X : (hd.heap_39 w.params).In B) (T : Top p loose mean mg mb B) (hd : dp + 4 < recursionLimit) (hu : un + 200 < cLine) (hf : env.frame = some L) (hk : env.scope.kind = .function) (S : LawSt B L c co s.heap m ps1 ps2 e1 e2 dl)
    (ma : (a, W.listOf va.toArray na) ∈ dl) (Da : DatAll dl va da) (mb' : (b, W.listOf vb.toArray nb) ∈ dl) (Db : DatAll dl vb db) (ha : ∀ d ∈ da, kqdOk 8 d = true) (hb : ∀ d ∈ db, kqdOk 8 d = true) (hz : va.length ≤ 1000000)
    (h : ∀ h' tk a' n' vs, LawSt B L c co h' m ps1 ps2 e1 e2 ((a', W.listOf vs.toArray n') :: dl) → DatAll dl vs (da.filter fun d => decide (d ∉ db)) → Q (.ref a') { s with heap := h', toks := tk }) :
    wpAny (model PySem.Challenge.rw_ik0003_01.row.prog w) (Ar dp (some [env]) gd un) (call (.ref 131) [.ref a, .ref b]) Q E s := by
  have hfs : ([env].filterMap (·.frame)) = [L] := by simp [hf]
  obtain ⟨oL, hoL⟩ := S.here
  refine filter_c (outer := [env]) (base := B) (g := dl) (fun b o e => S.fr.keep b o (X b o e)) (T.keeps S.fr.keep) hd hu (below_law S.fr rfl hf hk) (fun p hp => by rw [hfs]; exact hideAll_get _ (S.nd p hp).1 fun hm => (S.nd p hp).2.1 (List.mem_singleton.mp hm)) ma Da mb' Db ha hb hz ?_
  intro h' tk a' n' vs k U ha' hfresh Dv
  rw [hfs] at k
  refine h h' tk a' n' vs ?_ Dv
  refine (S.move (U.ns S.fr.ns) fun b o hb e => k b o (hideAll_get _ e fun hm => hb (List.mem_singleton.mp hm))).more (add := [(a', W.listOf vs.toArray n')]) s.heap (fun q hq => ⟨_, (S.news q hq).1⟩) (fun b o e => ⟨_, S.fr.keep b o e⟩) ?_
  intro q hq
  rw [List.mem_singleton.mp hq]
  exact ⟨ha', (fun e => by rw [show a' = L from e, hoL] at hfresh; cases hfresh), hfresh⟩
end
end Mine

set_option Elab.async false
set_option maxRecDepth 100000
set_option maxHeartbeats 4000000
set_option pp.maxSteps 6000
set_option pp.deepTerms false
namespace Mine
open PySem PySem.Calls PyProof.Rows PySem.W PySem.Builtin.Re
namespace LawSt
variable {B : Heap} {L c : Addr} {co co' : Obj} {h h' : Heap} {m m' : Str → Option Value} {ps1 ps2 : Array Value} {e1 e2 dl : List (Addr × Obj)}
theorem next (S : LawSt B L c co h m ps1 ps2 e1 e2 dl) {big : List (Addr × Obj)} (F : Fr B L h' m') (N : News B L h' big) (hb : ∀ p ∈ (c, co') :: (82, tabObj ps1) :: (65, tabObj ps2) :: (e1 ++ (e2 ++ dl)), p ∈ big) : LawSt B L c co' h' m' ps1 ps2 e1 e2 dl :=
  ⟨F, fun p hp => N p (hb p hp), S.t1, S.t2, S.n1, S.n2, S.off, S.ap1, S.ap2⟩
theorem assigned (S : LawSt B L c co h m ps1 ps2 e1 e2 dl) {add : List (Addr × Obj)} (hns : h'.Ns L m') (hk : ∀ b o, b ≠ L → h.get? b = some o → h'.get? b = some o) (hN : ∀ p ∈ add, h'.get? p.1 = some p.2 ∧ h.get? p.1 = none) : LawSt B L c co h' m' ps1 ps2 e1 e2 (add ++ dl) := by
  obtain ⟨oL, hoL⟩ := S.here
  exact (S.move hns hk).more h (fun q hq => ⟨_, (S.news q hq).1⟩) (fun b o e => ⟨_, S.fr.keep b o e⟩) fun q hq => ⟨(hN q hq).1, (fun e => by have := (hN q hq).2; rw [e, hoL] at this; cases this), (hN q hq).2⟩
theorem assigned0 (S : LawSt B L c co h m ps1 ps2 e1 e2 dl) {add : List (Addr × Obj)} (hns : h'.Ns L m') (hk : ∀ b o, b ≠ L → (hideAll h (([] : List (Addr × Obj)).map (·.1))).get? b = some o → h'.get? b = some o) (hN : ∀ p ∈ add, (hideAll h (([] : List (Addr × Obj)).map (·.1))).get? p.1 = none ∧ (p.1 ≠ L → h'.get? p.1 = some p.2)) : LawSt B L c co h' m' ps1 ps2 e1 e2 (add ++ dl) :=
  S.assigned hns hk fun p hp => ⟨(hN p hp).2 (fun e => by
    obtain ⟨oL, hoL⟩ := S.here
    have z : h.get? p.1 = none := (hN p hp).1
    rw [e, hoL] at z
    cases z), (hN p hp).1⟩
theorem add1 (S : LawSt B L c co h m ps1 ps2 e1 e2 dl) {a : Addr} {o : Obj} (hn : h.get? a = some o ∧ a ≠ L ∧ B.get? a = none) (hlt : ∀ p ∈ (c, co) :: (82, tabObj ps1) :: (65, tabObj ps2) :: (e1 ++ (e2 ++ dl)), @Ne Nat p.1 a) : LawSt B L c co h m ps1 ps2 e1 e2 ((a, o) :: dl) := by
  have hl : ∀ q ∈ e1 ++ (e2 ++ dl), @Ne Nat q.1 a := fun q hq => hlt q (.tail _ (.tail _ (.tail _ hq)))
  refine ⟨S.fr, of S.fr S.nc S.n82 S.n65 S.ne1 S.ne2 (List.forall_mem_cons.mpr ⟨hn, S.nd⟩), S.t1, S.t2, S.n1, S.n2, ?_, ?_, ?_⟩
  · intro p hp
    rcases List.mem_append.mp hp with hp | hp
    · exact S.off p (List.mem_append.mpr (.inl hp))
    · rcases List.mem_append.mp hp with hp | hp
      · exact S.off p (List.mem_append.mpr (.inr (List.mem_append.mpr (.inl hp))))
      · rcases List.mem_cons.mp hp with rfl | hp
        · exact ⟨(hlt _ (.head _)).symm, (hlt (82, tabObj ps1) (.tail _ (.head _))).symm, (hlt (65, tabObj ps2) (.tail _ (.tail _ (.head _)))).symm⟩
        · exact S.off p (List.mem_append.mpr (.inr (List.mem_append.mpr (.inr hp))))
  · intro p hp q hq
    rcases List.mem_append.mp hq with hq | hq
    · exact S.ap1 p hp q (List.mem_append.mpr (.inl hq))
    · rcases List.mem_cons.mp hq with rfl | hq
      · exact hl p (List.mem_append.mpr (.inl hp))
      · exact S.ap1 p hp q (List.mem_append.mpr (.inr hq))
  · intro p hp q hq
    rcases List.mem_cons.mp hq with rfl | hq
    · exact hl p (List.mem_append.mpr (.inr (List.mem_append.mpr (.inl hp))))
    · exact S.ap2 p hp q hq
theorem setcell (S : LawSt B L c co h m ps1 ps2 e1 e2 dl) (hs : Heap.SameBut c h h') (hv : h'.get? c = some co') : LawSt B L c co' h' m ps1 ps2 e1 e2 dl := by
  have k : ∀ b o, b ≠ c → h.get? b = some o → h'.get? b = some o := fun b o hb e => hs.extBut b o hb e
  have F' : Fr B L h' m := ⟨S.fr.ns.sameBut hs (Ne.symm S.nc.2.1), fun b o e => k b o (fun q => by rw [q, S.nc.2.2] at e; cases e) (S.fr.keep b o e), S.fr.above⟩
  refine ⟨F', of F' ⟨hv, S.nc.2⟩ ⟨k _ _ (Ne.symm S.n1) S.n82.1, S.n82.2⟩ ⟨k _ _ (Ne.symm S.n2) S.n65.1, S.n65.2⟩ ?_ ?_ ?_, S.t1, S.t2, S.n1, S.n2, S.off, S.ap1, S.ap2⟩
  · exact fun p hp => ⟨k _ _ (S.off p (List.mem_append.mpr (.inl hp))).1 (S.ne1 p hp).1, (S.ne1 p hp).2⟩
  · exact fun p hp => ⟨k _ _ (S.off p (List.mem_append.mpr (.inr (List.mem_append.mpr (.inl hp))))).1 (S.ne2 p hp).1, (S.ne2 p hp).2⟩
  · exact fun p hp => ⟨k _ _ (S.off p (List.mem_append.mpr (.inr (List.mem_append.mpr (.inr hp))))).1 (S.nd p hp).1, (S.nd p hp).2⟩
theorem lts {a : Addr} (g : @LT.lt Nat _ c a ∧ @LT.lt Nat _ 82 a ∧ @LT.lt Nat _ 65 a ∧ AllLt a (e1 ++ (e2 ++ dl))) : ∀ p ∈ (c, co) :: (82, tabObj ps1) :: (65, tabObj ps2) :: (e1 ++ (e2 ++ dl)), @Ne Nat p.1 a := by
  intro p hp
  rcases List.mem_cons.mp hp with rfl | hp
  · exact Nat.ne_of_lt g.1
  · rcases List.mem_cons.mp hp with rfl | hp
    · exact Nat.ne_of_lt g.2.1
    · rcases List.mem_cons.mp hp with rfl | hp
      · exact Nat.ne_of_lt g.2.2.1
      · exact Nat.ne_of_lt (allLt_lt g.2.2.2 p hp)
theorem assignedF (S : LawSt B L c co h m ps1 ps2 e1 e2 dl) {add : List (Addr × Obj)} (hns : h'.Ns L m') (hk : ∀ b o, b ≠ L → (hideAll h [L]).get? b = some o → h'.get? b = some o) (hN : ∀ p ∈ add, p.1 ≠ L ∧ (hideAll h [L]).get? p.1 = none ∧ h'.get? p.1 = some p.2) : LawSt B L c co h' m' ps1 ps2 e1 e2 (add ++ dl) :=
  S.assigned hns (fun b o hb e => hk b o hb (hideAll_get _ e fun hm => hb (List.mem_singleton.mp hm))) fun p hp => ⟨(hN p hp).2.2, by
    cases e : h.get? p.1 with
    | none => rfl
    | some o => have := (hN p hp).2.1; rw [hideAll_get _ e fun hm => (hN p hp).1 (List.mem_singleton.mp hm)] at this; cases this⟩
theorem nsF (S : LawSt B L c co h m ps1 ps2 e1 e2 dl) {oL : Obj} {sl : Array (Option Value)} (hoL : h.get? L = some oL) (hk : ∀ b o, (hideAll h [L]).get? b = some o → h'.get? b = some o) (hL : h'.get? L = some { oL with slots := sl }) : h'.Ns L m := by
  refine Heap.UpToSlots.ns (h := h) (fun b o e _ => ?_) S.fr.ns
  by_cases hb : b = L
  · subst hb; rw [hoL] at e; cases e; exact ⟨sl, hL⟩
  · exact ⟨o.slots, hk b o (hideAll_get _ e fun hm => hb (List.mem_singleton.mp hm))⟩
abbrev mOf (_ : LawSt B L c co h m ps1 ps2 e1 e2 dl) : Str → Option Value := m
theorem olds (S : LawSt B L c co h m ps1 ps2 e1 e2 dl) {add : List (Addr × Obj)} (ha : ∀ p ∈ add, h'.get? p.1 = some p.2 ∧ h.get? p.1 = none) : ∀ p ∈ add, h'.get? p.1 = some p.2 ∧ p.1 ≠ L ∧ B.get? p.1 = none := fun p hp => by
  obtain ⟨oL, hoL⟩ := S.here
  refine ⟨(ha p hp).1, (fun e => by have := (ha p hp).2; rw [e, hoL] at this; cases this), ?_⟩
  cases e : B.get? p.1 with
  | none => rfl
  | some o => have := (ha p hp).2; rw [S.fr.keep _ _ e] at this; cases this
theorem joined (S : LawSt B L c co h m ps1 ps2 e1 e2 dl) {ps : Array Value} {ext : List (Addr × Obj)} (k1 : ∀ b o, @Ne Nat b 82 → h.get? b = some o → h'.get? b = some o) (k2 : h'.get? 82 = some (tabObj ps)) (k3 : ∀ p ∈ ext, h'.get? p.1 = some p.2) (k4 : ∀ p ∈ ext, @Ne Nat p.1 82) (ht : TabSt 57 50 lamQ ps ext)
    (hsame : (ps = ps1 ∧ ext = e1) ∨ ∀ p ∈ ext, h.get? p.1 = none) : LawSt B L c co h' m ps ps2 ext e2 dl := by
  obtain ⟨oL, hoL⟩ := S.here
  have b82 : ∀ b o, B.get? b = some o → @Ne Nat b 82 := fun b o e q => by rw [show b = 82 from q, S.n82.2.2] at e; cases e
  have F' : Fr B L h' m := ⟨S.fr.ns.at' fun o e => k1 _ _ (Ne.symm S.n82.2.1) e, fun b o e => k1 b o (b82 b o e) (S.fr.keep b o e), S.fr.above⟩
  have old : ∀ q ∈ (c, co) :: (65, tabObj ps2) :: (e2 ++ dl), h'.get? q.1 = some q.2 ∧ q.1 ≠ L ∧ B.get? q.1 = none := by
    intro q hq
    rcases List.mem_cons.mp hq with rfl | hq
    · exact ⟨k1 _ _ S.n1 S.nc.1, S.nc.2⟩
    · rcases List.mem_cons.mp hq with rfl | hq
      · exact ⟨k1 _ _ (show @Ne Nat 65 82 by decide) S.n65.1, S.n65.2⟩
      · have z := S.news q (.tail _ (.tail _ (.tail _ (List.mem_append.mpr (.inr hq)))))
        exact ⟨k1 _ _ (S.off q (List.mem_append.mpr (.inr hq))).2.1 z.1, z.2⟩
  have fresh : ∀ p ∈ ext, (p.1 ≠ L ∧ B.get? p.1 = none) ∧ @Ne Nat p.1 c ∧ @Ne Nat p.1 65 ∧ ∀ q ∈ e2 ++ dl, @Ne Nat p.1 q.1 := by
    intro p hp
    rcases hsame with ⟨_, rfl⟩ | hf
    · have o := S.off p (List.mem_append.mpr (.inl hp))
      exact ⟨(S.ne1 p hp).2, o.1, o.2.2, S.ap1 p hp⟩
    · have z := hf p hp
      refine ⟨⟨(fun e => by rw [e, hoL] at z; cases z), ?_⟩, (fun e => by rw [show p.1 = c from e, S.nc.1] at z; cases z), (fun e => by rw [show p.1 = 65 from e, S.n65.1] at z; cases z), fun q hq e => ?_⟩
      · cases e : B.get? p.1 with
        | none => rfl
        | some o => rw [S.fr.keep _ _ e] at z; cases z
      · rw [show p.1 = q.1 from e, (S.news q (.tail _ (.tail _ (.tail _ (List.mem_append.mpr (.inr hq)))))).1] at z; cases z
  refine ⟨F', of F' (old _ (.head _)) ⟨k2, S.n82.2⟩ (old _ (.tail _ (.head _))) (fun p hp => ⟨k3 p hp, (fresh p hp).1⟩) (fun p hp => old p (.tail _ (.tail _ (List.mem_append.mpr (.inl hp))))) (fun p hp => old p (.tail _ (.tail _ (List.mem_append.mpr (.inr hp))))), ht, S.t2, S.n1, S.n2, ?_, fun p hp q hq => (fresh p hp).2.2.2 q hq, S.ap2⟩
  intro p hp
  rcases List.mem_append.mp hp with hp | hp
  · exact ⟨(fresh p hp).2.1, k4 p hp, (fresh p hp).2.2.1⟩
  · exact S.off p (List.mem_append.mpr (.inr hp))
theorem withs (S : LawSt B L c co h m ps1 ps2 e1 e2 dl) {add : List (Addr × Obj)} (ha : ∀ p ∈ add, h.get? p.1 = some p.2 ∧ p.1 ≠ L ∧ B.get? p.1 = none) : News B L h (add ++ dl) := fun p hp => by
  rcases List.mem_append.mp hp with hp | hp
  · exact ha p hp
  · exact S.nd p hp
end LawSt
theorem mapp {g : List (Addr × Obj)} {add : List (Addr × Obj)} {v : Value} {d : Dat} (h : DatIn add v d) : DatIn (add ++ g) v d := h.mono fun p hp => List.mem_append.mpr (.inl hp)
theorem mapr {g : List (Addr × Obj)} {add : List (Addr × Obj)} {v : Value} {d : Dat} (h : DatIn g v d) : DatIn (add ++ g) v d := h.mono fun p hp => List.mem_append.mpr (.inr hp)
theorem ints_get {vs : List Value} {ns : List Int} (H : IntsAre vs ns) {i : Nat} {v : Value} (hv : vs[i]? = some v) : ∃ x t, v = .int x t := by
  induction H generalizing i with
  | nil => cases hv
  | cons _ _ _ ih => 
    cases i with
    | zero => cases hv; exact ⟨_, _, rfl⟩
    | succ i => exact ih hv
theorem store_in {M : Model} {A : Around} {E : Value → Shared → Prop} {s : Shared} {h₀ : Heap} {m : Str → Option Value} {news : List (Addr × Obj)} {env : Env} {x : Str} {v : Value} {Q : Unit → Shared → Prop} (F : Fr h₀ env.locals s.heap m) (N : News h₀ env.locals s.heap news) (hk : env.scope.kind = .function) (hl : env.kindOf x = some .local)
    (h : ∀ h', Fr h₀ env.locals h' (fun y => if y = x then some v else m y) → News h₀ env.locals h' news → Q () { s with heap := h', toks := s.toks + 1 }) : wpAny M A (storeName env x v) Q E s := by
  refine wpAny_storeName_local hl F.ns (fun h' hn hs => h h' ⟨hn, fun b o e => hs.extBut b o (fun q => Nat.lt_irrefl _ (Nat.lt_of_lt_of_le (Heap.lt_size (q ▸ e)) F.above)) (F.keep b o e), F.above⟩ fun p hp => ⟨hs.extBut _ _ (N p hp).2.1 (N p hp).1, (N p hp).2⟩) (by rw [hk]; rfl)
theorem name_glob {M : Model} {A : Around} {E : Value → Shared → Prop} {s : Shared} {K : Frag} {h₀ : Heap} {L : Addr} {m mg mb : Str → Option Value} {p : Program} {loose : List Str} {mean : ExcName → Option Value} {env : Env} {x : Str} {pos : Pos} {v : Value} {Q : Value → Shared → Prop} (F : Fr h₀ L s.heap m) (X : K.In h₀) (T : Top p loose mean mg mb h₀) (e : nsIn K mainGlobals x = some (some v))
    (hg : env.globals = mainGlobals) (hk : env.scope.kind = .function) (hx : env.kindOf x = some .globalImplicit) (h : Q v s) (hd : (x == ("__debug__" : Str)) = false := by decide) : wpAny M A (eval (.Name x pos) env) Q E s :=
  Name_function_global hk hx (loadGlobal_global (hg.symm ▸ T.g.keeps F.keep) (mg_of X T.g e) h) hd
theorem name_cellC {M : Model} {A : Around} {E : Value → Shared → Prop} {s : Shared} {env : Env} {x : Str} {pos : Pos} {c : Addr} {o : Obj} {v : Value} {Q : Value → Shared → Prop} (hk : env.scope.kind = .function) (hx : env.kindOf x = some .cell) (hc : env.cells.lookup x = some c) (ho : s.heap.get? c = some o) (hd : o.data = .cell (some v)) (h : Q v s)
    (hb : (x == ("__debug__" : Str)) = false := by decide) : wpAny M A (eval (.Name x pos) env) Q E s := wpAny_Name (wpAny_loadName_cell hk hx hc ⟨o, ho, hd⟩ h) hb
theorem elt_add {g : Heap} {C : Addr} {J : List (Addr × Obj) → Prop} {own nx add : List (Addr × Obj)} {s : Shared} {h h' : Heap} {tk : Nat} {m' : Str → Option Value} (F : Fr g C h m') (N : News g C h (nx ++ own)) (G : Grows h h') (hadd : ∀ p ∈ add, h'.get? p.1 = some p.2 ∧ h.get? p.1 = none)
    (hs : ∀ q ∈ own, ∀ p ∈ nx, p.1 ≠ q.1) (hJ : J (add ++ nx)) : EltEnd g C J own s { s with heap := h', toks := tk } := by
  obtain ⟨oC, _, _, hoC, _⟩ := id F.ns
  have N' := News_grows N G
  refine ⟨h', tk, m', add ++ nx, rfl, Fr_grows F G, ?_, fun p hp => (N' p (List.mem_append.mpr (.inr hp))).1, ?_, hJ⟩
  · intro p hp
    rcases List.mem_append.mp hp with hp | hp
    · refine ⟨(hadd p hp).1, (fun e => by have := (hadd p hp).2; rw [e, hoC] at this; cases this), ?_⟩
      cases e : g.get? p.1 with
      | none => rfl
      | some o => have := (hadd p hp).2; rw [F.keep _ _ e] at this; cases this
    · exact N' p (List.mem_append.mpr (.inl hp))
  · intro q hq p hp
    rcases List.mem_append.mp hp with hp | hp
    · intro e
      have := (hadd p hp).2
      rw [e, (N q (List.mem_append.mpr (.inr hq))).1] at this
      cases this
    · exact hs q hq p hp
theorem rows_lists {g : List (Addr × Obj)} : ∀ {ys : List Value} {rws : List (List Pr)}, DatAll g ys (rws.map rowD) → ∃ xss : List (List Value), xss.length = ys.length ∧ (∀ (i : Nat) (v : Value), ys[i]? = some v → ∃ (a : Addr) (xs : List Value) (n : Nat), v = .ref a ∧ xss[i]? = some xs ∧ (a, W.listOf xs.toArray n) ∈ g) ∧ DatAll g xss.flatten (rws.flatten.map pairD)
  | [], [], _ => ⟨[], rfl, fun i v h => (nomatch h), .nil⟩
  | y :: ys, r :: rws, h => by
    cases h with
    | cons h1 h2 =>
      obtain ⟨xss, e1, e2, e3⟩ := rows_lists h2
      obtain ⟨a, vs, n, rfl, hm, hD⟩ := datList h1
      refine ⟨vs :: xss, by simp [e1], ?_, ?_⟩
      · intro i v hv
        cases i with
        | zero => cases hv; exact ⟨a, vs, n, rfl, rfl, hm⟩
        | succ i => exact e2 i v hv
      · rw [List.flatten_cons, List.flatten_cons, List.map_append]
        exact hD.append e3
theorem filter_ne {rws : List (List Pr)} (h : ∀ r ∈ rws, 1 ≤ r.length) : rws.filter (fun r => !r.isEmpty) = rws := by
  refine List.filter_eq_self.mpr fun r hr => ?_
  have := h r hr
  cases r with
  | nil => simp at this
  | cons => rfl
theorem flat_len {rws : List (List Pr)} (h : ∀ r ∈ rws, r.length ≤ 3) : rws.flatten.length ≤ 3 * rws.length := by
  induction rws with
  | nil => exact Nat.le_refl _
  | cons r rws ih =>
    have := ih fun r hr => h r (.tail _ hr)
    have := h r (.head _)
    rw [List.flatten_cons, List.length_append, List.length_cons]; omega
theorem slice3_K {prog : Program} {w : World} {A : Around} {E : Value → Shared → Prop} {s : Shared} {h₀ : Heap} {L l : Addr} {m : Str → Option Value} {news : List (Addr × Obj)} {vs : List Value} {n : Nat} {value slice : Expr} {u : Tok} {ops : List Value} {Q : Value → Shared → Prop} (F : Fr h₀ L s.heap m) (N : News h₀ L s.heap news) (hm : (l, W.listOf vs.toArray n) ∈ news) (hz : vs.length ≤ 1000)
    (h : ∀ D h' (zs : List Value), Fr h₀ L h' m → News h₀ L h' ((D, W.listOf zs.toArray 0) :: news) → (∀ p ∈ news, p.1 < D) → (∀ z ∈ zs, z ∈ vs) → Q (.ref D) { s with heap := h' })
    (hs : subscripted slice false (.ref l) (.ref s.heap.objs.size) = operate ops (getItem (.ref l) (.ref s.heap.objs.size)) := by with_unfolding_all rfl) (ht : ∀ r, letTemporaryGo value (.ref l) r = pure () := by intro _; with_unfolding_all rfl) :
    wpAny (model prog w) A (subscriptTail value slice (.ref l) (.ref s.heap.objs.size)) Q E { s with heap := s.heap.push { cls := .type "slice", data := .fields #[.none, .none, .int 3 u] } } := by
  refine slice_list3 (items := vs.toArray) F N ⟨_, (N _ hm).1, rfl, n, rfl⟩ .none .none (.int _ _) (by decide) (fun h' F' N' => ?_) hs ht (by rw [List.size_toArray, sizeLine_eq]; omega)
  refine h _ h' (slicePick vs.toArray none none (some 3)).toList F' (by rw [Array.toArray_toList]; exact N') (fun p hp => Nat.lt_succ_of_lt (Heap.lt_size (N p hp).1)) fun z hz' => ?_
  unfold slicePick at hz'
  rw [List.toList_toArray] at hz'
  obtain ⟨i, _, hi⟩ := List.mem_filterMap.mp hz'
  rw [List.getElem?_toArray] at hi
  exact List.mem_of_getElem? hi
theorem dat_sub {g : List (Addr × Obj)} {vs : List Value} {ps : List Pr} (H : DatAll g vs (ps.map pairD)) : ∀ zs : List Value, (∀ z ∈ zs, z ∈ vs) → ∃ qs : List Pr, DatAll g zs (qs.map pairD)
  | [], _ => ⟨[], .nil⟩
  | z :: zs, hz => by
    obtain ⟨qs, hq⟩ := dat_sub H zs fun x hx => hz x (.tail _ hx)
    obtain ⟨i, hi⟩ := List.mem_iff_getElem?.mp (hz z (.head _))
    have hil : i < (ps.map pairD).length := by rw [← H.length]; exact (List.getElem?_eq_some_iff.mp hi).1
    obtain ⟨v', hv', hd⟩ := H.get hil
    rw [hi] at hv'
    cases hv'
    rw [List.getElem_map] at hd
    exact ⟨_ :: qs, .cons hd hq⟩
theorem ok_key (b : Bool) : PyData.strOk (keyS b) = true := by cases b <;> decide +kernel
theorem ok_pv (n : Nat) (v : PV) : kqdOk (n + 1) (pvD v) = true := by
  cases v <;> simp only [pvD, kqdOk]
  all_goals decide +kernel
theorem ok_pair (p : Pr) : kqdOk 7 (pairD p) = true := by
  unfold pairD
  simp only [kqdOk, List.all_cons, List.all_nil, Bool.and_true]
  rw [ok_key, Bool.true_and]
  exact ok_pv 5 p.2
theorem ok_pair8 (p : Pr) : kqdOk 8 (pairD p) = true := by
  unfold pairD
  simp only [kqdOk, List.all_cons, List.all_nil, Bool.and_true]
  rw [ok_key, Bool.true_and]
  exact ok_pv 6 p.2
theorem ok_row (r : List Pr) : kqdOk 8 (rowD r) = true := by
  unfold rowD
  simp only [kqdOk, List.all_map, List.all_eq_true]
  intro p _
  exact ok_pair p
theorem ok_rows (rs : List (List Pr)) : ∀ d ∈ rs.map rowD, kqdOk 8 d = true := fun d hd => by
  obtain ⟨r, _, rfl⟩ := List.mem_map.mp hd
  exact ok_row r
theorem ok_pairs (ps : List Pr) : ∀ d ∈ ps.map pairD, kqdOk 8 d = true := fun d hd => by
  obtain ⟨r, _, rfl⟩ := List.mem_map.mp hd
  exact ok_pair8 r
open Classical in
/-- two lists of data are compared -/
theorem ne_same {prog : Program} {w : World} {A : Around} {E : Value → Shared → Prop} {s : Shared} {h₀ : Heap} {L a b : Addr} {news : List (Addr × Obj)} {ds es : List Dat} {Q : Value → Shared → Prop} (N : News h₀ L s.heap news) (Da : DatIn news (.ref a) (.list ds)) (Db : DatIn news (.ref b) (.list es)) (e : ds = es)
    (ha : ∀ d ∈ ds, kqdOk 8 d = true) (hu : A.units + 64 < cLine) (h : Q (.bool false) s) : wpAny (model prog w) A (compareOp .NotEq (.ref a) (.ref b)) Q E s := by
  subst e
  obtain ⟨a', va, na, ea, ma, hDa⟩ := datList Da
  obtain ⟨b', vb, nb, eb, mb, hDb⟩ := datList Db
  cases ea
  cases eb
  refine kqd_ne N ma rfl rfl hDa (fun _ q => q) mb rfl rfl hDb (fun _ q => q) ha ha hu ?_
  rw [decide_eq_true rfl]
  exact h
open Classical in
theorem eq_same {prog : Program} {w : World} {A : Around} {E : Value → Shared → Prop} {s : Shared} {h₀ : Heap} {L a b : Addr} {news : List (Addr × Obj)} {ds es : List Dat} {Q : Value → Shared → Prop} (N : News h₀ L s.heap news) (Da : DatIn news (.ref a) (.list ds)) (Db : DatIn news (.ref b) (.list es)) (e : ds = es)
    (ha : ∀ d ∈ ds, kqdOk 8 d = true) (hu : A.units + 64 < cLine) (h : Q (.bool true) s) : wpAny (model prog w) A (compareOp .Eq (.ref a) (.ref b)) Q E s := by
  subst e
  obtain ⟨a', va, na, ea, ma, hDa⟩ := datList Da
  obtain ⟨b', vb, nb, eb, mb, hDb⟩ := datList Db
  cases ea
  cases eb
  refine kqd_eq N ma rfl rfl hDa (fun _ q => q) mb rfl rfl hDb (fun _ q => q) ha ha hu ?_
  rw [decide_eq_true rfl]
  exact h
open Classical in
theorem filter_elt {w : World} {p : Program} {loose : List Str} {mean : ExcName → Option Value} {mg mb : Str → Option Value} {dp un : Nat} {gd : Option (List Code)} {env : Env} {B hh h : Heap} {L c C a b na nb : Nat} {co oL : Obj} {m m₁ : Str → Option Value} {ps1 ps2 : Array Value} {e1 e2 dl adds own : List (Addr × Obj)} {sl : Array (Option Value)} {va vb : List Value} {da db : List Dat} {s : Shared} {tk : Nat} {J : Value → List (Addr × Obj) → Prop}
    (X : (hd.heap_39 w.params).In B) (T : Top p loose mean mg mb B) (hd : dp + 4 < recursionLimit) (hu : un + 200 < cLine) (hf : env.frame = some L) (hk : env.scope.kind = .function) (S : LawSt B L c co hh m ps1 ps2 e1 e2 dl) (hoL : hh.get? L = some oL)
    (F : Fr (hideAll hh [L]) C h m₁) (N : News (hideAll hh [L]) C h (((L, { oL with slots := sl }) :: adds) ++ own)) (hown : ∀ q ∈ own, ∀ p ∈ (L, ({ oL with slots := sl } : Obj)) :: adds, p.1 ≠ q.1) (hadds : ∀ p ∈ adds, p.1 ≠ L)
    (ma : (a, W.listOf va.toArray na) ∈ dl) (Da : DatAll dl va da) (mb' : (b, W.listOf vb.toArray nb) ∈ dl) (Db : DatAll dl vb db) (ha : ∀ d ∈ da, kqdOk 8 d = true) (hb : ∀ d ∈ db, kqdOk 8 d = true) (hz : va.length ≤ 1000000)
    (hJ : ∀ sl' a' n' vs, a' ≠ L → DatAll dl vs (da.filter fun d => decide (d ∉ db)) → J (.ref a') ((L, { oL with slots := sl' }) :: (a', W.listOf vs.toArray n') :: adds)) :
    wpAny (model PySem.Challenge.rw_ik0003_01.row.prog w) (Ar dp (some [env]) gd un) (call (.ref 131) [.ref a, .ref b]) (fun y s₄ => EltEnd (hideAll hh [L]) C (J y) own s s₄) Never { s with heap := h, toks := tk } := by
  have nL := N _ (.head _)
  have hLC : L ≠ C := nL.2.1
  have kg : ∀ b o, b ≠ L → hh.get? b = some o → h.get? b = some o := fun b o hb e => F.keep b o (hideAll_get _ e fun hm => hb (List.mem_singleton.mp hm))
  have bL : ∀ b o, B.get? b = some o → b ≠ L := fun b o e q => Nat.lt_irrefl _ (Nat.lt_of_lt_of_le (Heap.lt_size (q ▸ e)) S.fr.above)
  have kB : ∀ b o, B.get? b = some o → h.get? b = some o := fun b o e => kg b o (bL b o e) (S.fr.keep b o e)
  have U0 : hh.UpToSlots h := fun b o e _ => by
    by_cases hb : b = L
    · subst hb; rw [hoL] at e; cases e; exact ⟨sl, nL.1⟩
    · exact ⟨o.slots, kg b o hb e⟩
  have hns := U0.ns S.fr.ns
  have nf : ∀ vs, oL.data ≠ .fields vs := by
    obtain ⟨o, _, _, ho, hd, _⟩ := S.fr.ns
    rw [hoL] at ho; cases ho
    intro vs q; rw [hd] at q; cases q
  have K : Below (Ar dp (some [env]) gd un) B [env] h := ⟨rfl, kB, Heap.FunFrames.cons (by rw [hk]; decide) hf hns (Heap.get?_none_of_le S.fr.above) trivial⟩
  have hfs : ([env].filterMap (·.frame)) = [L] := by simp [hf]
  refine filter_c (s := { s with heap := h, toks := tk }) (outer := [env]) (base := B) (g := dl) (fun b o e => kB b o (X b o e)) (T.keeps kB) hd hu K (fun p hp => by rw [hfs]; exact hideAll_get _ (kg _ _ (S.nd p hp).2.1 (S.nd p hp).1) fun hm => (S.nd p hp).2.1 (List.mem_singleton.mp hm)) ma Da mb' Db ha hb hz ?_
  intro h' tk' a' n' vs k U ha' hfresh Dv
  rw [hfs] at k
  have k' : ∀ b o, b ≠ L → h.get? b = some o → h'.get? b = some o := fun b o hb e => k b o (hideAll_get _ e fun hm => hb (List.mem_singleton.mp hm))
  obtain ⟨sl', hsl⟩ := U L _ nL.1 nf
  obtain ⟨oC, _, _, hoC, _⟩ := id F.ns
  have gL : ∀ b o, (hideAll hh [L]).get? b = some o → b ≠ L := fun b o e q => by rw [q, hideAll_none _ (.head _)] at e; cases e
  have F' : Fr (hideAll hh [L]) C h' m₁ := ⟨F.ns.at' fun o e => k' _ _ (Ne.symm hLC) e, fun b o e => k' b o (gL b o e) (F.keep b o e), F.above⟩
  have old : ∀ q ∈ ((L, ({ oL with slots := sl } : Obj)) :: adds) ++ own, h.get? q.1 = some q.2 := fun q hq => (N q hq).1
  have fr : ∀ q ∈ ((L, ({ oL with slots := sl } : Obj)) :: adds) ++ own, q.1 ≠ a' := fun q hq e => by have := old q hq; rw [e, hfresh] at this; cases this
  refine ⟨h', tk', m₁, (L, { oL with slots := sl' }) :: (a', W.listOf vs.toArray n') :: adds, rfl, F', ?_, ?_, ?_, hJ sl' a' n' vs (fun e => by rw [show a' = L from e, nL.1] at hfresh; cases hfresh) Dv⟩
  · intro q hq
    rcases List.mem_cons.mp hq with rfl | hq
    · exact ⟨hsl, nL.2⟩
    · rcases List.mem_cons.mp hq with rfl | hq
      · refine ⟨ha', (fun e => by rw [show a' = C from e, hoC] at hfresh; cases hfresh), ?_⟩
        cases e : (hideAll hh [L]).get? a' with
        | none => rfl
        | some o => rw [F.keep _ _ e] at hfresh; cases hfresh
      · have z := N q (List.mem_append.mpr (.inl (.tail _ hq)))
        refine ⟨?_, z.2⟩
        by_cases hqL : q.1 = L
        · exact absurd hqL (hadds q hq)
        · exact k' _ _ hqL z.1
  · intro q hq
    have z := N q (List.mem_append.mpr (.inr hq))
    exact k' _ _ (fun e => hown q hq _ (.head _) e.symm) z.1
  · intro q hq p hp
    rcases List.mem_cons.mp hp with rfl | hp
    · show L ≠ q.1
      exact hown q hq (L, { oL with slots := sl }) (.head _)
    · rcases List.mem_cons.mp hp with rfl | hp
      · exact (fr q (List.mem_append.mpr (.inr hq))).symm
      · exact hown q hq p (.tail _ hp)
/-- the pairs that stay -/
noncomputable def keepR (qs : List Pr) (r : List Pr) : List Pr := by
  classical exact r.filter fun q => decide (pairD q ∉ qs.map pairD)
open Classical in
theorem keep_dat (qs r : List Pr) : (r.map pairD).filter (fun d => decide (d ∉ qs.map pairD)) = (keepR qs r).map pairD := by
  unfold keepR
  rw [List.filter_map]
  rfl
def FJ (L : Addr) (oL : Obj) (dl : List (Addr × Obj)) (rows : List (List Pr)) (qs : List Pr) (i : Nat) (ys : List Value) (nx : List (Addr × Obj)) : Prop :=
  ∃ sl adds, nx = (L, { oL with slots := sl }) :: adds ∧ (∀ p ∈ adds, p.1 ≠ L) ∧ DatAll (adds ++ dl) ys (((rows.take i).map (keepR qs)).map rowD)
open Classical in
theorem notin_T {prog : Program} {w : World} {A : Around} {E : Value → Shared → Prop} {s : Shared} {b : Addr} {g : List (Addr × Obj)} {v : Value} {d : Dat} {es : List Dat} {Q : Value → Shared → Prop} (G : ∀ p ∈ g, s.heap.get? p.1 = some p.2) (Dx : DatIn g v d) (Db : DatIn g (.ref b) (.list es)) (hm : d ∉ es)
    (ha : ∀ d ∈ es, kqdOk 8 d = true) (hd : kqdOk 8 d = true) (hu : A.units + 64 < cLine) (h : Q (.bool true) s) : wpAny (model prog w) A (compareOp .NotIn v (.ref b)) Q E s := by
  obtain ⟨b', vb, nb, eb, mb, hDb⟩ := datList Db
  cases eb
  refine kqd_notIn (news_of G) mb rfl rfl hDb (fun _ q => q) Dx (fun _ q => q) ha hd hu ?_
  rw [decide_eq_false hm]
  exact h
open Classical in
theorem notin_F {prog : Program} {w : World} {A : Around} {E : Value → Shared → Prop} {s : Shared} {b : Addr} {g : List (Addr × Obj)} {v : Value} {d : Dat} {es : List Dat} {Q : Value → Shared → Prop} (G : ∀ p ∈ g, s.heap.get? p.1 = some p.2) (Dx : DatIn g v d) (Db : DatIn g (.ref b) (.list es)) (hm : d ∈ es)
    (ha : ∀ d ∈ es, kqdOk 8 d = true) (hd : kqdOk 8 d = true) (hu : A.units + 64 < cLine) (h : Q (.bool false) s) : wpAny (model prog w) A (compareOp .NotIn v (.ref b)) Q E s := by
  obtain ⟨b', vb, nb, eb, mb, hDb⟩ := datList Db
  cases eb
  refine kqd_notIn (news_of G) mb rfl rfl hDb (fun _ q => q) Dx (fun _ q => q) ha hd hu ?_
  rw [decide_eq_true hm]
  exact h
open Classical in
theorem keep_take {qs r : List Pr} {i : Nat} (hi : i < r.length) : keepR qs (r.take (i + 1)) = keepR qs (r.take i) ++ (if pairD r[i] ∈ qs.map pairD then [] else [r[i]]) := by
  unfold keepR
  rw [List.take_add_one, List.getElem?_eq_getElem hi, List.filter_append]
  congr 1
  by_cases h : pairD r[i] ∈ qs.map pairD
  · rw [if_pos h]
    show List.filter _ [r[i]] = []
    rw [List.filter_cons, if_neg (by rw [decide_eq_true_iff]; exact fun z => z h)]; rfl
  · rw [if_neg h]
    show List.filter _ [r[i]] = [r[i]]
    rw [List.filter_cons, if_pos (decide_eq_true h)]; rfl
open Classical in
theorem ne_T {prog : Program} {w : World} {A : Around} {E : Value → Shared → Prop} {s : Shared} {a b : Addr} {g : List (Addr × Obj)} {ds es : List Dat} {Q : Value → Shared → Prop} (G : ∀ p ∈ g, s.heap.get? p.1 = some p.2) (Da : DatIn g (.ref a) (.list ds)) (Db : DatIn g (.ref b) (.list es)) (e : ds ≠ es)
    (ha : ∀ d ∈ ds, kqdOk 8 d = true) (hb : ∀ d ∈ es, kqdOk 8 d = true) (hu : A.units + 64 < cLine) (h : Q (.bool true) s) : wpAny (model prog w) A (compareOp .NotEq (.ref a) (.ref b)) Q E s := by
  obtain ⟨a', va, na, ea, ma, hDa⟩ := datList Da
  obtain ⟨b', vb, nb, eb, mb, hDb⟩ := datList Db
  cases ea
  cases eb
  refine kqd_ne (news_of G) ma rfl rfl hDa (fun _ q => q) mb rfl rfl hDb (fun _ q => q) ha hb hu ?_
  rw [decide_eq_false e]
  exact h
theorem ne_F {prog : Program} {w : World} {A : Around} {E : Value → Shared → Prop} {s : Shared} {a b : Addr} {g : List (Addr × Obj)} {ds es : List Dat} {Q : Value → Shared → Prop} (G : ∀ p ∈ g, s.heap.get? p.1 = some p.2) (Da : DatIn g (.ref a) (.list ds)) (Db : DatIn g (.ref b) (.list es)) (e : ds = es)
    (ha : ∀ d ∈ ds, kqdOk 8 d = true) (hu : A.units + 64 < cLine) (h : Q (.bool false) s) : wpAny (model prog w) A (compareOp .NotEq (.ref a) (.ref b)) Q E s := ne_same (news_of G) Da Db e ha hu h
theorem keep_len (qs r : List Pr) : (keepR qs r).length ≤ r.length := by
  unfold keepR
  exact List.length_filter_le ..
theorem keep_idem (qs r : List Pr) : keepR qs (keepR qs r) = keepR qs r := by
  unfold keepR
  rw [List.filter_filter]
  simp
theorem keep_flat (qs : List Pr) (rs : List (List Pr)) : (rs.map (keepR qs)).flatten = keepR qs rs.flatten := by
  unfold keepR
  induction rs with
  | nil => rfl
  | cons r rs ih => rw [List.map_cons, List.flatten_cons, List.flatten_cons, List.filter_append, ih]
open Classical in
theorem keep_self (ps : List Pr) : keepR ps ps = [] := by
  unfold keepR
  rw [List.filter_eq_nil_iff]
  intro q hq
  intro z
  exact of_decide_eq_true z (List.mem_map_of_mem hq)

set_option maxHeartbeats 200000 in
theorem join_elt {w : World} {p : Program} {loose : List Str} {mean : ExcName → Option Value} {mg mb : Str → Option Value} {dp un : Nat} {fr : Option (List Env)} {gd : Option (List Code)} {B hh h : Heap} {L c C a l1 n1 : Nat} {co : Obj} {m m₁ : Str → Option Value} {ps ps1 ps2 : Array Value} {e1 e2 dl ext own : List (Addr × Obj)} {r : List Pr} {s : Shared} {tk : Nat} {J : Value → List (Addr × Obj) → Prop}
    (X : (hd.heap_39 w.params).In B) (T : Top p loose mean mg mb B) (C1 : CodeHd B 86 82) (hd : dp + 2 < recursionLimit) (hu : un + 40 < cLine) (S : LawSt B L c co hh m ps1 ps2 e1 e2 dl)
    (F : Fr (hideAll hh (82 :: e1.map (·.1))) C h m₁) (hl : h.get? l1 = some (W.listOf [Value.ref a].toArray n1)) (N : News (hideAll hh (82 :: e1.map (·.1))) C h (((82, tabObj ps) :: ext) ++ own)) (hown : ∀ q ∈ own, ∀ p ∈ (82, tabObj ps) :: ext, p.1 ≠ q.1) (hl1 : ∀ p ∈ (82, tabObj ps) :: ext, @Ne Nat p.1 l1)
    (D : DatIn dl (.ref a) (rowD r)) (hr : r.length ≤ 3) (ht : TabSt 57 50 lamQ ps ext) (h82 : ∀ p ∈ ext, @Ne Nat p.1 82) (hex : (ps = ps1 ∧ ext = e1) ∨ (e1 = [] ∧ ∀ p ∈ ext, hh.get? p.1 = none))
    (hJ : ∀ ps' ext' t, TabSt 57 50 lamQ ps' ext' → (∀ p ∈ ext', @Ne Nat p.1 82) → ((ps' = ps1 ∧ ext' = e1) ∨ (e1 = [] ∧ ∀ p ∈ ext', hh.get? p.1 = none)) → J (.str (textS [r]) t) ((82, tabObj ps') :: ext')) :
    wpAny (model PySem.Challenge.rw_ik0003_01.row.prog w) (Ar dp fr gd un) (call (.ref 87) [.ref l1]) (fun y s₄ => EltEnd (hideAll hh (82 :: e1.map (·.1))) C (J y) own s s₄) Never { s with heap := h, toks := tk } := by
  have noB : ∀ b ∈ 82 :: ext.map (·.1), B.get? b = none := by
    intro b hb
    rcases List.mem_cons.mp hb with rfl | hb
    · exact S.n82.2.2
    · obtain ⟨q, hq, rfl⟩ := List.mem_map.mp hb
      rcases hex with ⟨_, rfl⟩ | ⟨_, hf⟩
      · exact (S.ne1 q hq).2.2
      · cases e : B.get? q.1 with
        | none => rfl
        | some o => have := hf q hq; rw [S.fr.keep _ _ e] at this; cases this
  have noB1 : ∀ b ∈ 82 :: e1.map (·.1), B.get? b = none := by
    intro b hb
    rcases List.mem_cons.mp hb with rfl | hb
    · exact S.n82.2.2
    · obtain ⟨q, hq, rfl⟩ := List.mem_map.mp hb
      exact (S.ne1 q hq).2.2
  have kh : ∀ b o, B.get? b = some o → h.get? b = some o := fun b o e => F.keep b o (keep_hide S.fr.keep noB1 b o e)
  have kB := keep_hide kh noB
  have z82 := N _ (.head _)
  obtain ⟨oC, _, _, hoC, _⟩ := id F.ns
  refine join_c (s := { s with heap := h, toks := tk }) (g := (l1, W.listOf [Value.ref a].toArray n1) :: dl) (ext0 := ext) (ps0 := ps) (rows := [r]) (fun b o e => kB b o (X b o e)) (T.keeps kB) (C1.keeps kB) hd hu z82.1 (fun p hp => (N p (List.mem_append.mpr (.inl (.tail _ hp)))).1) h82 ht ?_ (DatIn.list (vs := [Value.ref a]) (.head _) (.cons (D.mono fun p hp => .tail _ hp) .nil)) (by show 1 ≤ 16; decide) (fun r' hr' => by rw [List.mem_singleton.mp hr']; exact hr) ?_
  · intro p hp
    have nin : ∀ b : Nat, (∀ p ∈ (82, tabObj ps) :: ext, @Ne Nat p.1 b) → b ∉ 82 :: ext.map (·.1) := fun b hb hm => by
      rcases List.mem_cons.mp hm with rfl | hm
      · exact hb _ (.head _) rfl
      · obtain ⟨q, hq, e⟩ := List.mem_map.mp hm
        exact hb q (.tail _ hq) e
    rcases List.mem_cons.mp hp with rfl | hp
    · exact hideAll_get _ hl (nin _ hl1)
    · have off := S.off p (List.mem_append.mpr (.inr (List.mem_append.mpr (.inr hp))))
      refine hideAll_get _ (F.keep _ _ (hideAll_get _ (S.nd p hp).1 fun hm => ?_)) (nin _ ?_)
      · rcases List.mem_cons.mp hm with hm | hm
        · exact off.2.1 hm
        · obtain ⟨q, hq, e⟩ := List.mem_map.mp hm
          exact S.ap1 q hq p (List.mem_append.mpr (.inr hp)) e
      · intro q hq e
        rcases List.mem_cons.mp hq with rfl | hq
        · exact off.2.1 e.symm
        · rcases hex with ⟨_, rfl⟩ | ⟨_, hf⟩
          · exact S.ap1 q hq p (List.mem_append.mpr (.inr hp)) e
          · have := hf q hq
            rw [show q.1 = p.1 from e, (S.nd p hp).1] at this
            cases this
  · intro h' tk' t ps' ext' k1 k2 k3 k4 ht' hsame
    have hC82 : C ≠ 82 := Ne.symm z82.2.1
    have g82 : ∀ b o, (hideAll hh (82 :: e1.map (·.1))).get? b = some o → @Ne Nat b 82 := fun b o e q => by rw [show b = 82 from q, hideAll_none _ (.head _)] at e; cases e
    have F' : Fr (hideAll hh (82 :: e1.map (·.1))) C h' m₁ := ⟨F.ns.at' fun o e => k1 _ _ hC82 e, fun b o e => k1 b o (g82 b o e) (F.keep b o e), F.above⟩
    have own' : ∀ q ∈ own, h'.get? q.1 = some q.2 := fun q hq => k1 _ _ (fun e => hown q hq (82, tabObj ps) (.head _) e.symm) (N q (List.mem_append.mpr (.inr hq))).1
    have fresh : ∀ p ∈ ext', (p.1 ≠ C ∧ (hideAll hh (82 :: e1.map (·.1))).get? p.1 = none) ∧ ∀ q ∈ own, p.1 ≠ q.1 := by
      intro p hp
      rcases hsame with ⟨_, rfl⟩ | ⟨_, _, hf⟩
      · exact ⟨(N p (List.mem_append.mpr (.inl (.tail _ hp)))).2, fun q hq => hown q hq p (.tail _ hp)⟩
      · have z : h.get? p.1 = none := hf p hp
        refine ⟨⟨(fun e => by rw [e, hoC] at z; cases z), ?_⟩, fun q hq e => by rw [e, (N q (List.mem_append.mpr (.inr hq))).1] at z; cases z⟩
        cases e : (hideAll hh (82 :: e1.map (·.1))).get? p.1 with
        | none => rfl
        | some o => rw [F.keep _ _ e] at z; cases z
    refine ⟨h', tk', m₁, (82, tabObj ps') :: ext', rfl, F', ?_, own', ?_, hJ ps' ext' t ht' k4 ?_⟩
    · intro p hp
      rcases List.mem_cons.mp hp with rfl | hp
      · exact ⟨k2, z82.2⟩
      · exact ⟨k3 p hp, (fresh p hp).1⟩
    · intro q hq p hp
      rcases List.mem_cons.mp hp with rfl | hp
      · exact hown q hq (82, tabObj ps) (.head _)
      · exact (fresh p hp).2 q hq
    · rcases hsame with ⟨rfl, rfl⟩ | ⟨rfl, rfl, hf⟩
      · exact hex
      · have he1 : e1 = [] := hex.elim (fun z => z.2.symm) fun z => z.1
        subst he1
        refine .inr ⟨rfl, fun p hp => ?_⟩
        cases e : hh.get? p.1 with
        | none => rfl
        | some o =>
          have z : h.get? p.1 = none := hf p hp
          rw [F.keep _ _ (hideAll_get _ e fun hm => k4 p hp (List.mem_singleton.mp hm))] at z
          cases z
theorem LawSt.hid82 {B : Heap} {L c : Addr} {co : Obj} {h : Heap} {m : Str → Option Value} {ps1 ps2 : Array Value} {e1 e2 dl : List (Addr × Obj)} (S : LawSt B L c co h m ps1 ps2 e1 e2 dl) : ∀ p ∈ dl, (hideAll h (82 :: e1.map (·.1))).get? p.1 = some p.2 := fun p hp => hideAll_get _ (S.nd p hp).1 fun hm => by
  rcases List.mem_cons.mp hm with hm | hm
  · exact (S.off p (List.mem_append.mpr (.inr (List.mem_append.mpr (.inr hp))))).2.1 hm
  · obtain ⟨q, hq, e⟩ := List.mem_map.mp hm
    exact S.ap1 q hq p (List.mem_append.mpr (.inr hp)) e
theorem LawSt.noB82 {B : Heap} {L c : Addr} {co : Obj} {h : Heap} {m : Str → Option Value} {ps1 ps2 : Array Value} {e1 e2 dl : List (Addr × Obj)} (S : LawSt B L c co h m ps1 ps2 e1 e2 dl) : ∀ b ∈ 82 :: e1.map (·.1), B.get? b = none := by
  intro b hb
  rcases List.mem_cons.mp hb with rfl | hb
  · exact S.n82.2.2
  · obtain ⟨q, hq, rfl⟩ := List.mem_map.mp hb
    exact (S.ne1 q hq).2.2
theorem split_one (rows : List (List Pr)) : ([rows].flatMap fun rows => rows.filter fun r => !r.isEmpty) = rows.filter fun r => !r.isEmpty := by
  rw [List.flatMap_cons, List.flatMap_nil, List.append_nil]
theorem split_each : ∀ (rows : List (List Pr)), ((rows.map fun r => [r]).flatMap fun rows => rows.filter fun r => !r.isEmpty) = rows.filter fun r => !r.isEmpty
  | [] => rfl
  | r :: rows => by
    rw [List.map_cons, List.flatMap_cons, split_each rows]
    cases r <;> rfl
/-- where the table of join_header_words stands amid the comprehension -/
def JJ (hh : Heap) (ps1 : Array Value) (e1 : List (Addr × Obj)) (ks : List (List Pr)) (i : Nat) (ys : List Value) (nx : List (Addr × Obj)) : Prop :=
  ∃ ps ext, nx = (82, tabObj ps) :: ext ∧ TabSt 57 50 lamQ ps ext ∧ (∀ p ∈ ext, @Ne Nat p.1 82) ∧ ((ps = ps1 ∧ ext = e1) ∨ (e1 = [] ∧ ∀ p ∈ ext, hh.get? p.1 = none)) ∧ DatAll [] ys ((ks.take i).map fun r => Dat.str (textS [r]))
theorem LawSt.fresh_ne {B : Heap} {L c : Addr} {co : Obj} {h : Heap} {m : Str → Option Value} {ps1 ps2 : Array Value} {e1 e2 dl : List (Addr × Obj)} (S : LawSt B L c co h m ps1 ps2 e1 e2 dl) {D : Addr} (hD : h.get? D = none) : ∀ p ∈ (c, co) :: (82, tabObj ps1) :: (65, tabObj ps2) :: (e1 ++ (e2 ++ dl)), @Ne Nat p.1 D := fun p hp e => by
  have := (S.news p hp).1
  rw [show p.1 = D from e, hD] at this
  cases this
/-- a list that a comprehension made joins the ledger -/
theorem LawSt.comped {B : Heap} {L c : Addr} {co : Obj} {h h' : Heap} {m : Str → Option Value} {ps1 ps2 : Array Value} {e1 e2 dl : List (Addr × Obj)} (S : LawSt B L c co h m ps1 ps2 e1 e2 dl) {D : Addr} {o : Obj} (G : Grows h h') (hD : h'.get? D = some o) (hD0 : h.get? D = none) : LawSt B L c co h' m ps1 ps2 e1 e2 ((D, o) :: dl) :=
  (S.grows G).add1 (S.olds (add := [(D, o)]) (fun p hp => by rw [List.mem_singleton.mp hp]; exact ⟨hD, hD0⟩) _ (.head _)) fun p hp => S.fresh_ne hD0 p hp
theorem LawSt.joinedC {B : Heap} {L c : Addr} {co : Obj} {h h' : Heap} {m : Str → Option Value} {ps1 ps2 : Array Value} {e1 e2 dl : List (Addr × Obj)} (S : LawSt B L c co h m ps1 ps2 e1 e2 dl) {D : Addr} {o : Obj} {ps : Array Value} {ext : List (Addr × Obj)} (hk : ∀ b o, (hideAll h (82 :: e1.map (·.1))).get? b = some o → h'.get? b = some o) (k2 : h'.get? 82 = some (tabObj ps)) (k3 : ∀ p ∈ ext, h'.get? p.1 = some p.2) (k4 : ∀ p ∈ ext, @Ne Nat p.1 82) (ht : TabSt 57 50 lamQ ps ext)
    (hex : (ps = ps1 ∧ ext = e1) ∨ (e1 = [] ∧ ∀ p ∈ ext, h.get? p.1 = none)) (hD : h'.get? D = some o) (hD0 : h.get? D = none) (hap : ∀ p ∈ ext, p.1 ≠ D) : LawSt B L c co h' m ps ps2 ext e2 ((D, o) :: dl) := by
  have k1 : ∀ b o, @Ne Nat b 82 → h.get? b = some o → h'.get? b = some o := by
    intro b o hb e
    by_cases hm : b ∈ e1.map (·.1)
    · obtain ⟨q, hq, rfl⟩ := List.mem_map.mp hm
      rcases hex with ⟨_, rfl⟩ | ⟨rfl, _⟩
      · rw [(S.ne1 q hq).1] at e; cases e; exact k3 q hq
      · cases hq
    · exact hk b o (hideAll_get _ e fun hm2 => by
        rcases List.mem_cons.mp hm2 with rfl | hm2
        · exact hb rfl
        · exact hm hm2)
  have S' := S.joined k1 k2 k3 k4 ht (hex.elim .inl fun z => .inr z.2)
  refine S'.add1 (S.olds (add := [(D, o)]) (fun p hp => by rw [List.mem_singleton.mp hp]; exact ⟨hD, hD0⟩) _ (.head _)) fun p hp => ?_
  have f := S.fresh_ne hD0
  rcases List.mem_cons.mp hp with rfl | hp
  · exact f _ (.head _)
  · rcases List.mem_cons.mp hp with rfl | hp
    · exact f (82, tabObj ps1) (.tail _ (.head _))
    · rcases List.mem_cons.mp hp with rfl | hp
      · exact f _ (.tail _ (.tail _ (.head _)))
      · rcases List.mem_append.mp hp with hp | hp
        · exact hap p hp
        · exact f p (.tail _ (.tail _ (.tail _ (List.mem_append.mpr (.inr hp)))))
theorem text_nil : textS [] = Str.ofString "" := rfl
theorem mem_dl4 {a x y z u : Addr × Obj} {e1 e2 dl : List (Addr × Obj)} (h : a ∈ dl) : a ∈ x :: y :: z :: u :: (e1 ++ (e2 ++ dl)) :=
  .tail _ (.tail _ (.tail _ (.tail _ (List.mem_append.mpr (.inr (List.mem_append.mpr (.inr h)))))))
theorem news_app {B : Heap} {L : Addr} {h : Heap} {l add : List (Addr × Obj)} (N : News B L h l) (ha : ∀ p ∈ add, h.get? p.1 = some p.2 ∧ p.1 ≠ L ∧ B.get? p.1 = none) : News B L h (l ++ add) := fun p hp => (List.mem_append.mp hp).elim (N p) (ha p)
theorem wordsLaw1 : True := by
  k_with_none
  k_with "callWith builtin:list.append cons nil" => k_dflt (refine callWith_method1 ?_)
  k_with "eval Call Name cons nil" => k_dflt (refine Call_ ?_)
  k_with "eval Call Attribute cons nil" => k_dflt (refine MethodCall_ ?_)
  k_with "call builtin:list.append cons nil" => (k_dflt (refine' append_K ?k1 ?k2 ?k3 ?_ ?z; (case k1 => k_asm); (case k2 => k_asm); (case k3 => k_upd); (case z => assumption); k_whole); intro h'ₖ F'ₖ N'ₖ; (try dsimp only))
  k_with "exec For Name Call cons nil" => k_dflt (refine wpAny_For ?_ ?_)
  k_with "exec For Name Name cons nil" => k_dflt (refine wpAny_For ?_ ?_)
  k_with "exec For Tuple Name cons nil" => k_dflt (refine wpAny_For ?_ ?_)
  trivial
theorem wordsLaw2 : True := by
  k_with "exec Assign cons ListComp" => (refine Stop.mk ?_)
  k_with "eval ListComp" => (refine Stop.mk ?_)
  k_with "eval Name" => ((with_reducible show wpAny _ _ (eval (Expr.Name _ _) (compEnvC _ _ _ _)) _ _ _); (rename Fr _ _ _ _ => F'ₖ); k_dflt (refine name_in F'ₖ rfl rfl (by with_unfolding_all rfl) ?_))
  k_with "callWith builtin:str.replace cons cons nil" => k_dflt (refine callWith_method1 ?_)
  k_with "callWith builtin:str.replace cons nil" => k_dflt (refine callWith_method1 ?_)
  k_with "callWith builtin:str.join cons nil" => k_dflt (refine callWith_method1 ?_)
  k_with "callWith builtin:len cons nil" => k_dflt (refine PyProof.Rows.callWith_builtin1 ?_)
  k_with "binaryOp Add ref ref" => ((rename Fr _ _ _ _ => F'ₖ); (rename News _ _ _ _ => N'ₖ); k_dflt (refine' add_K F'ₖ N'ₖ ?a ?b ?z ?_; (case a => k_mem); (case b => k_mem); (case z => assumption)); intro D'ₖ h'ₖ F'ₖ N'ₖ l1ₖ; (try k_lt l1ₖ))
  k_with "getAttr ref" => ((with_reducible show wpAny _ _ (getAttr (Value.ref _) (Str.ofString "__contains__") _) _ _ _); (rename Fr _ _ _ _ => F'ₖ); (rename News _ _ _ _ => N'ₖ); k_dflt (refine contains_attr F'ₖ N'ₖ (F'ₖ.keep _ _ (by assumption)) ?_); intro q'ₖ h'ₖ F'ₖ N'ₖ l1ₖ; (try dsimp only); (try k_lt l1ₖ))
  k_with "callWith builtin:iter cons nil" => k_dflt (refine PyProof.Rows.callWith_builtin1 ?_)
  k_with "call builtin:iter cons nil" => ((rename Fr _ _ _ _ => F'ₖ); (rename News _ _ _ _ => N'ₖ); k_dflt (refine iter_list F'ₖ N'ₖ (F'ₖ.keep _ _ (by assumption)) ?_); intro it'ₖ h'ₖ F'ₖ N'ₖ l1ₖ; (try dsimp only); (try k_lt l1ₖ))
  k_with "callWith builtin:re.Pattern.fullmatch cons nil" => k_dflt (refine callWith_method1 ?_)
  k_with "callWith builtin:re.Pattern.sub cons nil" => k_dflt (refine callWith_method1 ?_)
  trivial

theorem wordsLaw3 : True := by
  k_with "call ref cons nil" => (refine Stop.mk ?_)
  k_with "call ref" => (refine Stop.mk ?_)
  k_with "eval ListComp" => (refine Stop.mk ?_)
  k_with "storeName" => ((with_reducible show wpAny _ _ (storeName (compEnvC _ _ _ _) _ _) _ _ _); (rename Fr _ _ _ _ => F'ₖ); (rename News _ _ _ _ => N'ₖ); k_dflt (refine store_in F'ₖ N'ₖ rfl rfl ?_); clear F'ₖ N'ₖ; intro h'ₖ F'ₖ N'ₖ; (try dsimp only))
  k_with "eval Name" => ((with_reducible show wpAny _ _ (eval (Expr.Name _ _) (compEnvC _ _ _ _)) _ _ _); (rename Fr _ _ _ _ => F'ₖ); (rename Frag.In _ _ => X'ₖ); (rename Top _ _ _ _ _ _ => T'ₖ); k_dflt (refine name_glob F'ₖ X'ₖ T'ₖ ?e rfl rfl rfl ?_; (case e => k_is)))
  trivial

theorem wordsLaw4 : True := by
  k_with "subscriptTail Name Slice ref ref" => ((with_reducible show wpAny _ _ (subscriptTail _ (PySem.Expr.Slice none none (some _) _) (Value.ref _) (Value.ref _)) _ _ _); (refine Stop.mk ?_))
  k_with "compareOp NotEq ref ref" => (refine Stop.mk ?_)
  k_with "compareOp Eq ref ref" => (refine Stop.mk ?_)
  k_with "eval Name" => ((with_reducible show wpAny _ _ (eval (Expr.Name (Str.ofString "leave") _) (compEnvC _ _ _ _)) _ _ _); (rename Fr _ _ _ _ => F'ₖ); k_dflt (refine name_cellC rfl rfl rfl (F'ₖ.keep _ _ (by assumption)) (by assumption) ?_))
  k_with "compareOp NotIn ref ref" => (refine Stop.mk ?_)
  trivial
theorem self_ne {x : Str} (h : (x != x) = true) : False := by simp at h
theorem law_holds : PySem.Challenge.rw_ik0003_01.Holds := hd (by
  k_go0
  rename Fr _ _ _ _ => F₀
  rename News _ _ _ _ => N₀
  rename Frag.In _ _ => X
  rename Top topProg _ _ _ _ _ => T
  rename _ ∧ _ => l0
  rename_i w s₀ s₁ mg mb G Y fa o pm cd doc ho hcd hg MX V T0 B0 TE TW ns hs hlay0 hLy hr1 hl2 w5 w4 sl vs w1 hL ra hw1 r0 hI hr hc1 hc2 hD h₁ tk₁ co hco hX0 K C1
  have C2 := codeHd
  replace C1 : CodeHd (ghostOf s₁.heap [(86, 82), (69, 65)]) 86 82 := C1
  replace C2 : CodeHd (ghostOf s₁.heap [(86, 82), (69, 65)]) 69 65 := C2
  clear codeHd G Y ho hcd MX V T0 B0 TE TW hlay0 hr1 hl2 hD hT8 hL ra hw1 r0 hr
  have hBL : (ghostOf s₁.heap [(86, 82), (69, 65)]).objs.size ≤ s₁.heap.objs.size := F₀.above
  generalize ghostOf s₁.heap [(86, 82), (69, 65)] = B at *
  refine hide_Q fun Qg eQ => ?_
  generalize s₁.heap.objs.size = LL at *
  generalize s₁.gens = gns at *
  generalize s₁.drawn = drn at *
  generalize s₁.os = oss at *
  have hL82 : @Ne Nat LL 82 := Nat.ne_of_gt l0.1
  have S₀ : LawSt B LL (LL + 1) co h₁ _ #[] #[] [] [] [] := ⟨F₀, N₀, .inl ⟨rfl, rfl⟩, .inl ⟨rfl, rfl⟩, Nat.ne_of_gt (Nat.lt_succ_of_lt l0.1), Nat.ne_of_gt (Nat.lt_succ_of_lt l0.2), List.forall_mem_nil _, List.forall_mem_nil _, List.forall_mem_nil _⟩
  k_steps
  all_goals (try (exfalso; rename (_ != _) = true => hx; exact self_ne hx))
  unfold Stop
  refine assign_compH (cl := []) rfl rfl (by decide) rfl (by decide) (by with_unfolding_all rfl) ?_ rfl rfl
  k_steps
  all_goals (try (exfalso; rename (_ != _) = true => hx; exact self_ne hx))
  unfold Stop
  rename Fr _ _ _ _ => F
  rename News _ _ _ _ => N
  rename IntsAre _ (_ ++ _) => hJ
  rename_i D0 vs0 h2 _
  have S₁ := S₀.next (co' := co) F N (fun p hp => .tail _ (.tail _ (.tail _ hp)))
  have hlen0 : vs0.length ≤ 11 := by rw [hJ.length, List.length_append, List.length_take]; simp only [List.length_cons, List.length_nil]; omega
  have n0 := N _ (.head _)
  refine ⟨D0, vs0, [], fun i ys nx => ∃ rws : List (List Pr), DatAll nx ys (rws.map rowD) ∧ rws.length = i ∧ ∀ r ∈ rws, 1 ≤ r.length ∧ r.length ≤ 3, _, rfl, S₁.here, ⟨⟨_, n0.1, rfl, 0, rfl⟩, by omega, List.forall_mem_nil _, ⟨[], .nil, rfl, List.forall_mem_nil _⟩, ?_⟩, fun _ _ h' _ hg _ => F.ns.at' fun o e => hg _ _ e, ?_⟩
  · rintro C i v ys m₁ nx h3 tk3 own hv ⟨rws, hd, hl, hr⟩ hown F₂ N₂
    obtain ⟨x, t, rfl⟩ := ints_get hJ hv
    have X₂ : (Mine.hd.heap_39 w.params).In (hideAll h2 (List.map (·.1) ([] : List (Addr × Obj)))) := X.keeps F.keep
    have T₂ : Top topProg _ _ _ _ (hideAll h2 (List.map (·.1) ([] : List (Addr × Obj)))) := T.keeps F.keep
    clear F N
    k_steps
    all_goals (try (exfalso; rename (_ != _) = true => hx; exact self_ne hx))
    unfold Stop
    rename Fr _ _ _ _ => F₃
    rename News _ _ _ _ => N₃
    refine row_c (X₂.keeps F₃.keep) (T₂.keeps F₃.keep) (by show callerA.depth + 1 + 1 < recursionLimit; decide) (by show callerA.units + 3 + 40 < cLine; decide) ?_
    intro h4 tk4 a4 add r G4 ha4 D4 hr1 hr3
    refine elt_add F₃ N₃ G4 ha4 hown ⟨rws ++ [r], ?_, by rw [List.length_append, hl]; rfl, ?_⟩
    · rw [List.map_append]
      exact (DatAll.mono (fun p hp => List.mem_append.mpr (.inr hp)) hd).append (DatAll.one (D4.mono fun p hp => List.mem_append.mpr (.inl hp)))
    · intro r' hr'
      rcases List.mem_append.mp hr' with hr' | hr'
      · exact hr r' hr'
      · rw [List.mem_singleton.mp hr']; exact ⟨hr1, hr3⟩
  · intro D ys k nx h3 tk3 hJ3 hns hk hN hap hD0
    obtain ⟨rws, hd1, hl1, hr1⟩ := hJ3
    have S₂ := S₁.assigned0 (add := (D, W.listOf ys.toArray k) :: nx) hns hk hN
    rw [List.append_nil] at S₂
    have F₂ := S₂.fr
    have N₂ := S₂.news
    simp only [List.nil_append] at N₂
    generalize hrn : rws.length = n0 at *
    clear F N hns hk hN hap hD0 S₀ S₁
    k_steps
    all_goals (try (exfalso; rename (_ != _) = true => hx; exact self_ne hx))
    unfold Stop
    obtain ⟨xss, hx1, hx2, hx3⟩ := rows_lists hd1
    have hfl : xss.flatten.length ≤ 1000 := by
      have h1 := hx3.length
      rw [List.length_map] at h1
      have h2 := flat_len fun r hr => (hr1 r hr).2
      omega
    refine assign_comp2 (cl := []) rfl rfl (by decide) rfl (by decide) (fun _ => rfl) (fun _ => rfl) (by decide) (by decide) (by with_unfolding_all rfl) ?_ rfl rfl
    k_steps
    all_goals (try (exfalso; rename (_ != _) = true => hx; exact self_ne hx))
    unfold Stop
    rename Fr _ _ _ _ => F
    rename News _ _ _ _ => N
    have S₃ := S₂.next (co' := co) F N (fun p hp => by simpa using hp)
    refine ⟨D, ys, xss, _, rfl, F.ns, ⟨⟨_, (S₃.nd _ (.head _)).1, rfl, k, rfl⟩, ?_, hx1.symm, by omega⟩, ?_⟩
    · intro i v hv
      obtain ⟨a, xs, n, e1, e2, e3⟩ := hx2 i v hv
      exact ⟨a, xs, e1, e2, _, (S₃.nd _ (.tail _ e3)).1, rfl, n, rfl⟩
    intro D2 k2 h4 tk4 hns4 hk4 hD4 hD40
    have S₄ := S₃.assigned (add := [(D2, W.listOf xss.flatten.toArray k2)]) hns4 hk4 fun p hp => by rw [List.mem_singleton.mp hp]; exact ⟨hD4, hD40⟩
    rw [List.cons_append, List.nil_append] at S₄
    clear F N S₂ S₃ hns4 hk4 hD4 hD40
    have F₄ := S₄.fr
    have N₄ := S₄.news
    simp only [List.nil_append] at N₄
    k_steps
    all_goals (try (exfalso; rename (_ != _) = true => hx; exact self_ne hx))
    unfold Stop
    rename Fr _ _ _ _ => F
    rename News _ _ _ _ => N
    refine slice3_K (n := k2) F N ?m hfl ?_
    case m => k_mem
    clear F N
    intro D3 h5 zs F N hlt3 hzs
    (try dsimp only)
    obtain ⟨qs, hqs⟩ := dat_sub hx3 zs hzs
    have S₅ := (S₄.next (co' := co) F N (fun p hp => List.mem_cons_of_mem _ (by simpa using hp))).add1 (a := D3) (o := W.listOf zs.toArray 0) (N _ (.head _)) fun p hp => Nat.ne_of_lt (hlt3 p (by simpa using hp))
    clear F N hlt3 S₄
    refine wpAny_storeName_cell rfl rfl rfl ⟨co, S₅.nc.1, hco⟩ fun h6 hv6 hs6 => ?_
    obtain ⟨co6, ho6, hc6⟩ := hv6
    have S₆ := S₅.setcell hs6 ho6
    clear S₅ hs6 ho6
    have F₆ := S₆.fr
    have N₆ := S₆.news
    simp only [List.nil_append] at N₆
    have hrl : rws.length ≤ 11 := by omega
    have hr3 : ∀ r ∈ rws, r.length ≤ 3 := fun r hr => (hr1 r hr).2
    have hDr : DatIn ((D3, W.listOf zs.toArray 0) :: (D2, W.listOf xss.flatten.toArray k2) :: (D, W.listOf ys.toArray k) :: nx) (.ref D) (rowsD rws) := DatIn.list (.tail _ (.tail _ (.head _))) (hd1.mono fun p hp => .tail _ (.tail _ (.tail _ hp)))
    k_steps
    all_goals (try (exfalso; rename (_ != _) = true => hx; exact self_ne hx))
    unfold Stop
    rename Fr _ _ _ _ => F
    rename News _ _ _ _ => N
    have S₇ := S₆.next (co' := co6) F N (fun p hp => by simpa using hp)
    clear F N S₆
    refine join_L X T C1 (by show callerA.depth + 1 + 2 < recursionLimit; decide) (by show callerA.units + 3 + 40 < cLine; decide) S₇ hDr (by omega) hr3 fun h8 tk8 t8 ps1 e1 S₈ => ?_
    clear S₇
    have F₈ := S₈.fr
    have N₈ := S₈.news
    k_steps
    all_goals (try (exfalso; rename (_ != _) = true => hx; exact self_ne hx))
    unfold Stop
    rename Fr _ _ _ _ => F
    rename News _ _ _ _ => N
    have S₉ := S₈.next (co' := co6) F N (fun p hp => hp)
    clear F N S₈
    refine text_L X T (by show callerA.depth + 1 + 1 < recursionLimit; decide) (by show callerA.units + 3 + 40 < cLine; decide) S₉ hDr (by omega) hr3 fun h10 tk10 t10 S₁₀ => ?_
    clear S₉
    have F₁₀ := S₁₀.fr
    have N₁₀ := S₁₀.news
    k_steps
    all_goals (try (exfalso; rename (_ != _) = true => hx; exact self_ne hx))
    unfold Stop
    rename Fr _ _ _ _ => F
    rename News _ _ _ _ => N
    have S₁₁ := S₁₀.next (co' := co6) F N (fun p hp => hp)
    clear F N S₁₀
    refine text_L X T (by show callerA.depth + 1 + 1 < recursionLimit; decide) (by show callerA.units + 3 + 40 < cLine; decide) S₁₁ hDr (by omega) hr3 fun h12 tk12 t12 S₁₂ => ?_
    clear S₁₁
    have F₁₂ := S₁₂.fr
    have N₁₂ := S₁₂.news
    k_steps
    all_goals (try (exfalso; rename (_ != _) = true => hx; exact self_ne hx))
    unfold Stop
    rename Fr _ _ _ _ => F
    rename News _ _ _ _ => N
    rename _ ∧ _ ∧ _ ∧ AllLt _ _ => hlt12
    rename_i D4 h13
    have S₁₃ := (S₁₂.next (co' := co6) F N (fun p hp => List.mem_cons_of_mem _ hp)).add1 (a := D4) (o := W.listOf #[Value.str (textS rws) t12] 0) (N _ (.head _)) (LawSt.lts hlt12)
    clear F N S₁₂ hlt12
    refine split_L (tt := [rws]) X T C2 (by show callerA.depth + 1 + 2 < recursionLimit; decide) (by show callerA.units + 3 + 60 < cLine; decide) S₁₃ (DatIn.list (vs := [_]) (.head _) (.cons (.str _ _) .nil)) (by show 1 ≤ 16; decide) (fun rows hrs => by rw [List.mem_singleton.mp hrs]; exact ⟨by omega, hr3⟩) fun h14 tk14 b14 add14 ps2 e2 S₁₄ ha14 D14 => ?_
    clear S₁₃
    have F₁₄ := S₁₄.fr
    have N₁₄ := S₁₄.news
    k_steps
    all_goals (try (exfalso; rename (_ != _) = true => hx; exact self_ne hx))
    unfold Stop
    rename Fr _ _ _ _ => F
    rename News _ _ _ _ => N
    have S₁₅ := S₁₄.next (co' := co6) F N (fun p hp => hp)
    have hfr : ([rws].flatMap fun rows => rows.filter fun r => !r.isEmpty) = rws := by
      rw [List.flatMap_cons, List.flatMap_nil, List.append_nil]
      exact filter_ne fun r hr => (hr1 r hr).1
    rw [hfr] at D14
    refine ne_same (S₁₅.withs ha14) (mapp D14) (mapr (hDr.mono fun p hp => .tail _ hp)) rfl (ok_rows _) (by show callerA.units + 3 + 64 < cLine; decide) ?_
    clear F N S₁₄ D14 ha14 hfr
    have F₁₆ := S₁₅.fr
    have N₁₆ := S₁₅.news
    k_steps
    all_goals (try (exfalso; rename (_ != _) = true => hx; exact self_ne hx))
    unfold Stop
    refine assign_compH (cl := [(Str.ofString "leave", LL + 1)]) rfl rfl (by decide) rfl (by decide) (by with_unfolding_all rfl) ?_ rfl rfl
    k_steps
    all_goals (try (exfalso; rename (_ != _) = true => hx; exact self_ne hx))
    unfold Stop
    rename Fr _ _ _ _ => F
    rename News _ _ _ _ => N
    have S₁₆ := S₁₅.next (co' := co6) F N (fun p hp => hp)
    clear F N S₁₅
    obtain ⟨oL, hoL⟩ := S₁₆.here
    have m3 : (D3, W.listOf zs.toArray 0) ∈ (D4, W.listOf #[Value.str (textS rws) t12] 0) :: (D3, W.listOf zs.toArray 0) :: (D2, W.listOf xss.flatten.toArray k2) :: (D, W.listOf ys.toArray k) :: nx := .tail _ (.head _)
    have m2 : (D2, W.listOf xss.flatten.toArray k2) ∈ (D4, W.listOf #[Value.str (textS rws) t12] 0) :: (D3, W.listOf zs.toArray 0) :: (D2, W.listOf xss.flatten.toArray k2) :: (D, W.listOf ys.toArray k) :: nx := .tail _ (.tail _ (.head _))
    have m1 : (D, W.listOf ys.toArray k) ∈ (D4, W.listOf #[Value.str (textS rws) t12] 0) :: (D3, W.listOf zs.toArray 0) :: (D2, W.listOf xss.flatten.toArray k2) :: (D, W.listOf ys.toArray k) :: nx := .tail _ (.tail _ (.tail _ (.head _)))
    have m0 : ∀ p ∈ nx, p ∈ (D4, W.listOf #[Value.str (textS rws) t12] 0) :: (D3, W.listOf zs.toArray 0) :: (D2, W.listOf xss.flatten.toArray k2) :: (D, W.listOf ys.toArray k) :: nx := fun p hp => .tail _ (.tail _ (.tail _ (.tail _ hp)))
    generalize (D4, W.listOf #[Value.str (textS rws) t12] 0) :: (D3, W.listOf zs.toArray 0) :: (D2, W.listOf xss.flatten.toArray k2) :: (D, W.listOf ys.toArray k) :: nx = DL at S₁₆ m0 m1 m2 m3
    replace hd1 := hd1.mono m0
    replace hqs := hqs.mono m0
    replace hx3 := hx3.mono m0
    replace hDr : DatIn DL (.ref D) (rowsD rws) := DatIn.list m1 hd1
    have mD := S₁₆.nd _ m1
    have hX3 : ∀ b ∈ [LL], B.get? b = none := fun b hb => by rw [List.mem_singleton.mp hb]; exact Heap.get?_none_of_le hBL
    have X₁₆ : (Mine.hd.heap_39 w.params).In (hideAll h14 (List.map (·.1) [((LL : Addr), oL)])) := fun b o e => keep_hide S₁₆.fr.keep hX3 b o (X b o e)
    have T₁₆ : Top topProg _ _ _ _ (hideAll h14 (List.map (·.1) [((LL : Addr), oL)])) := T.keeps (keep_hide S₁₆.fr.keep hX3)
    have hcg : (hideAll h14 (List.map (·.1) [((LL : Addr), oL)])).get? (LL + 1) = some co6 := hideAll_get _ S₁₆.nc.1 fun hm => S₁₆.nc.2.1 (List.mem_singleton.mp hm)
    refine ⟨D, ys, [(LL, oL)], FJ LL oL DL rws qs, S₁₆.mOf, rfl, ⟨oL, hoL⟩, ⟨⟨_, hideAll_get _ mD.1 fun hm => mD.2.1 (List.mem_singleton.mp hm), rfl, k, rfl⟩, ?_, fun p hp => by rw [List.mem_singleton.mp hp]; exact hoL, ⟨oL.slots, [], rfl, List.forall_mem_nil _, .nil⟩, ?_⟩, ?_, ?_⟩
    · have := hd1.length
      rw [List.length_map] at this
      omega
    · rintro C i v ys5 m₁ nx5 h17 tk17 own hv ⟨sl5, adds, rfl, hadds, hd5⟩ hown F₂ N₂
      obtain ⟨v', hv', hDv⟩ := hd1.get (k := i) (by rw [← hd1.length]; exact (List.getElem?_eq_some_iff.mp hv).1)
      rw [hv] at hv'
      cases hv'
      have hir : i < rws.length := by have := (List.getElem?_eq_some_iff.mp hv).1; rw [hd1.length, List.length_map] at this; exact this
      rw [List.getElem_map] at hDv
      have htk : rws.take (i + 1) = rws.take i ++ [rws[i]] := by rw [List.take_add_one, List.getElem?_eq_getElem hir]; rfl
      have hri := hr3 rws[i] (List.getElem_mem hir)
      generalize rws[i] = r at hDv htk hri
      obtain ⟨ra, rva, rn, e, hrm, hrD⟩ := datList hDv
      cases e
      k_steps
      all_goals (try (exfalso; rename (_ != _) = true => hx; exact self_ne hx))
      unfold Stop
      rename Fr _ _ _ _ => F₃
      rename News _ _ _ _ => N₃
      refine filter_elt X T (by show callerA.depth + 1 + 4 < recursionLimit; decide) (by show callerA.units + 3 + 200 < cLine; decide) rfl rfl S₁₆ hoL F₃ N₃ hown hadds hrm hrD m3 hqs (ok_pairs _) (ok_pairs _) (by have := hrD.length; rw [List.length_map] at this; omega) ?_
      intro sl' a' n' vs' ha'L Dv
      rw [keep_dat] at Dv
      refine ⟨sl', (a', W.listOf vs'.toArray n') :: adds, rfl, List.forall_mem_cons.mpr ⟨ha'L, hadds⟩, ?_⟩
      rw [htk, List.map_append, List.map_append]
      exact (DatAll.mono (fun p hp => .tail _ hp) hd5).append (DatAll.one (DatIn.list (.head _) (Dv.mono fun p hp => .tail _ (List.mem_append.mpr (.inr hp)))))
    · rintro ys5 nx5 h17 ⟨sl5, adds, rfl, _, _⟩ hk5 hn5
      exact S₁₆.nsF hoL hk5 (hn5 _ (.head _))
    intro D5 ys5 k5 nx5 h17 tk17 hJ5 hns5 hk5 hN5 hap5 hD50
    obtain ⟨sl5, adds, rfl, hadds, hd5⟩ := hJ5
    have S₁₇ := S₁₆.assignedF (add := (D5, W.listOf ys5.toArray k5) :: adds) hns5 hk5 (List.forall_mem_cons.mpr ⟨by
      have z := hN5 _ (.head _)
      have ne : D5 ≠ LL := fun e => by have := hD50; rw [e] at this; rw [show _ = some oL from hoL] at this; cases this
      exact ⟨ne, z.1, z.2 ne⟩, fun p hp => by
      have z := hN5 p (.tail _ (.tail _ hp))
      exact ⟨hadds p hp, z.1, z.2 (hadds p hp)⟩⟩)
    unfold LawSt.mOf at S₁₇
    have m5 : (D5, W.listOf ys5.toArray k5) ∈ ((D5, W.listOf ys5.toArray k5) :: adds) ++ DL := .head _
    have m6 : ∀ p ∈ adds ++ DL, p ∈ ((D5, W.listOf ys5.toArray k5) :: adds) ++ DL := fun p hp => .tail _ hp
    have m7 : ∀ p ∈ DL, p ∈ ((D5, W.listOf ys5.toArray k5) :: adds) ++ DL := fun p hp => .tail _ (List.mem_append.mpr (.inr hp))
    generalize ((D5, W.listOf ys5.toArray k5) :: adds) ++ DL = DM at S₁₇ m5 m6 m7
    rw [show ys.length = rws.length by rw [hd1.length, List.length_map], List.take_length] at hd5
    replace hd5 := hd5.mono m6
    replace hd1 := hd1.mono m7
    replace hqs := hqs.mono m7
    replace hx3 := hx3.mono m7
    replace hDr := hDr.mono m7
    replace m3 := m7 _ m3
    replace m2 := m7 _ m2
    replace m1 := m7 _ m1
    clear hcg X₁₆ T₁₆ hoL mD m0 m6 m7 hns5 hk5 hN5 hap5 hD50 S₁₆ hX3
    (try dsimp only)
    have F₁₇ := S₁₇.fr
    have N₁₇ := S₁₇.news
    k_steps
    all_goals (try (exfalso; rename (_ != _) = true => hx; exact self_ne hx))
    unfold Stop
    rename Fr _ _ _ _ => F
    rename News _ _ _ _ => N
    have S₁₈ := S₁₇.next (co' := co6) F N (fun p hp => hp)
    clear F N S₁₇
    refine list_compH (cl := [(Str.ofString "leave", LL + 1)]) rfl rfl (by decide) rfl (by decide) ?_
    have F₁₈ := S₁₈.fr
    have N₁₈ := S₁₈.news
    k_steps
    all_goals (try (exfalso; rename (_ != _) = true => hx; exact self_ne hx))
    unfold Stop
    refine ⟨D, ys, [], fun i ys' nx => DatAll (nx ++ DM) ys' (((rws.take i).map (keepR qs)).map rowD), rfl, ⟨⟨_, (S₁₈.nd _ m1).1, rfl, k, rfl⟩, ?_, List.forall_mem_nil _, .nil, ?_⟩, ?_⟩
    · have := hd1.length
      rw [List.length_map] at this
      omega
    · rintro C i v ys6 m₁ nx6 h18 tk18 own hv hd6 hown F₂ N₂
      obtain ⟨v', hv', hDv⟩ := hd1.get (k := i) (by rw [← hd1.length]; exact (List.getElem?_eq_some_iff.mp hv).1)
      rw [hv] at hv'
      cases hv'
      have hir : i < rws.length := by have := (List.getElem?_eq_some_iff.mp hv).1; rw [hd1.length, List.length_map] at this; exact this
      rw [List.getElem_map] at hDv
      have htk : rws.take (i + 1) = rws.take i ++ [rws[i]] := by rw [List.take_add_one, List.getElem?_eq_getElem hir]; rfl
      have hri := hr3 rws[i] (List.getElem_mem hir)
      generalize rws[i] = r at hDv htk hri
      obtain ⟨ra, rva, rn, e, hrm, hrD⟩ := datList hDv
      cases e
      clear F₁₈ N₁₈
      k_steps
      all_goals (try (exfalso; rename (_ != _) = true => hx; exact self_ne hx))
      unfold Stop
      rename Fr _ _ _ _ => F₃
      rename News _ _ _ _ => N₃
      refine list_compH (cl := [(Str.ofString "leave", LL + 1)]) rfl rfl (by decide) rfl (by decide) ?_
      k_steps
      all_goals (try (exfalso; rename (_ != _) = true => hx; exact self_ne hx))
      unfold Stop
      rename Fr _ _ _ _ => F₄
      rename Heap => h18'
      have G18 : ∀ p ∈ DM, h18'.get? p.1 = some p.2 := fun p hp => F₄.keep _ _ (S₁₈.nd p hp).1
      have hcg : h18'.get? (LL + 1) = some co6 := F₄.keep _ _ S₁₈.nc.1
      refine ⟨ra, rva, [], fun j zs' nz => nz = [] ∧ DatAll DM zs' ((keepR qs (r.take j)).map pairD), rfl, ⟨⟨_, G18 _ hrm, rfl, rn, rfl⟩, by have := hrD.length; rw [List.length_map] at this; omega, List.forall_mem_nil _, ⟨rfl, .nil⟩, ?_⟩, ?_⟩
      · rintro C2 j pv zs' m₂ nz h19 tk19 own2 hpv ⟨rfl, hz'⟩ hown2 F₅ N₅
        obtain ⟨pv', hpv', hDp⟩ := hrD.get (k := j) (by rw [← hrD.length]; exact (List.getElem?_eq_some_iff.mp hpv).1)
        rw [hpv] at hpv'
        cases hpv'
        have hjr : j < r.length := by have := (List.getElem?_eq_some_iff.mp hpv).1; rw [hrD.length, List.length_map] at this; exact this
        rw [List.getElem_map] at hDp
        have htk2 := keep_take (qs := qs) hjr
        generalize r[j] = q at hDp htk2
        obtain ⟨pa, pn, pt, py, e, hpm, hpy⟩ := datPair hDp
        cases e
        have hcg5 : (hideAll h18' (List.map (·.1) ([] : List (Addr × Obj)))).get? (LL + 1) = some co6 := hcg
        clear F₄ N₃
        k_steps
        all_goals (try (exfalso; rename (_ != _) = true => hx; exact self_ne hx))
        unfold Stop
        rename Fr _ _ _ _ => F₆
        rename News _ _ _ _ => N₆
        by_cases hmem : pairD q ∈ qs.map pairD
        · refine notin_F (g := DM) (fun p hp => F₆.keep _ _ (G18 p hp)) hDp (DatIn.list m3 hqs) hmem (ok_pairs _) (ok_pair8 _) (by show callerA.units + 3 + 64 < cLine; decide) ?_
          rw [if_pos hmem, List.append_nil] at htk2
          k_steps
          all_goals (try (exfalso; rename (_ != _) = true => hx; exact self_ne hx))
          rename Fr _ _ _ _ => F₇
          rename News _ _ _ _ => N₇
          exact elt_end [] F₇ N₇ (List.forall_mem_nil _) (fun p hp => hp) (fun _ _ _ h => (nomatch h)) ⟨rfl, by rw [htk2]; exact hz'⟩
        · refine notin_T (g := DM) (fun p hp => F₆.keep _ _ (G18 p hp)) hDp (DatIn.list m3 hqs) hmem (ok_pairs _) (ok_pair8 _) (by show callerA.units + 3 + 64 < cLine; decide) ?_
          rw [if_neg hmem] at htk2
          k_steps
          all_goals (try (exfalso; rename (_ != _) = true => hx; exact self_ne hx))
          rename Fr _ _ _ _ => F₇
          rename News _ _ _ _ => N₇
          exact elt_end [] F₇ N₇ (List.forall_mem_nil _) (fun p hp => hp) (fun _ _ _ h => (nomatch h)) ⟨rfl, by rw [htk2, List.map_append]; exact hz'.append (DatAll.one hDp)⟩
      · rintro D6 zs6 kz nz h20 tk20 ⟨rfl, hz6⟩ hk6 hN6 hap6 hD60
        rw [show rva.length = r.length by rw [hrD.length, List.length_map], List.take_length] at hz6
        refine elt_add F₄ N₃ (fun b o e => hk6 b o e) (add := [(D6, W.listOf zs6.toArray kz)]) (fun p hp => by rw [List.mem_singleton.mp hp]; exact ⟨(hN6 _ (.head _)).1, hD60⟩) hown ?_
        rw [htk, List.map_append, List.map_append]
        exact (DatAll.mono (fun p hp => .tail _ hp) hd6).append (DatAll.one (DatIn.list (.head _) (hz6.mono fun p hp => .tail _ (List.mem_append.mpr (.inr hp)))))
    intro D7 ys7 k7 nx7 h21 tk21 hd7 hk7 hN7 hap7 hD70
    rw [show ys.length = rws.length by rw [hd1.length, List.length_map], List.take_length] at hd7
    have S₁₉ := S₁₈.grows (h' := h21) fun b o e => hk7 b o e
    have ha7 := S₁₈.olds (h' := h21) (add := (D7, W.listOf ys7.toArray k7) :: nx7) fun p hp => hN7 p hp
    clear F₁₈ N₁₈ S₁₈ hk7 hN7 hap7 hD70
    have F₁₉ := S₁₉.fr
    have N₁₉ := S₁₉.news
    k_steps
    all_goals (try (exfalso; rename (_ != _) = true => hx; exact self_ne hx))
    unfold Stop
    rename Fr _ _ _ _ => F
    rename News _ _ _ _ => N
    have S₂₀ := S₁₉.next (co' := co6) F N (fun p hp => hp)
    clear F N S₁₉
    refine ne_same (S₂₀.withs ha7) (mapr (DatIn.list m5 hd5)) (DatIn.list (.head _) (hd7.mono fun p hp => .tail _ hp)) rfl (ok_rows _) (by show callerA.units + 3 + 64 < cLine; decide) ?_
    clear ha7
    have F₂₀ := S₂₀.fr
    have N₂₀ := S₂₀.news
    k_steps
    all_goals (try (exfalso; rename (_ != _) = true => hx; exact self_ne hx))
    unfold Stop
    obtain ⟨xss2, hy1, hy2, hy3⟩ := rows_lists hd1
    have hfl2 : xss2.flatten.length ≤ 1000 := by
      have h1 := hy3.length
      rw [List.length_map] at h1
      have h2 := flat_len hr3
      omega
    refine list_comp2 (cl := []) rfl rfl (by decide) rfl (by decide) (fun _ => rfl) (fun _ => rfl) (by decide) (by decide) ?_
    k_steps
    all_goals (try (exfalso; rename (_ != _) = true => hx; exact self_ne hx))
    unfold Stop
    rename Fr _ _ _ _ => F
    rename News _ _ _ _ => N
    have S₂₁ := S₂₀.next (co' := co6) F N (fun p hp => hp)
    clear F N S₂₀
    refine ⟨D, ys, xss2, rfl, ⟨⟨_, (S₂₁.nd _ m1).1, rfl, k, rfl⟩, fun i v hv => ?_, hy1.symm, by omega⟩, ?_⟩
    · obtain ⟨a, xs, n, e1, e2, e3⟩ := hy2 i v hv
      exact ⟨a, xs, e1, e2, _, (S₂₁.nd _ e3).1, rfl, n, rfl⟩
    intro D8 k8 h22 tk22 hg8 hD8 hD80
    have S₂₂ := S₂₁.grows hg8
    have ha8 := S₂₁.olds (h' := h22) (add := [(D8, W.listOf xss2.flatten.toArray k8)]) fun p hp => by rw [List.mem_singleton.mp hp]; exact ⟨hD8, hD80⟩
    clear S₂₁ hg8 hD8 hD80
    have F₂₂ := S₂₂.fr
    have N₂₂ := S₂₂.news
    k_steps
    all_goals (try (exfalso; rename (_ != _) = true => hx; exact self_ne hx))
    unfold Stop
    rename Fr _ _ _ _ => F
    rename News _ _ _ _ => N
    have S₂₃ := S₂₂.next (co' := co6) F N (fun p hp => hp)
    clear F N S₂₂
    refine ne_same (S₂₃.withs ha8) (DatIn.list (.head _) (hy3.mono fun p hp => .tail _ hp)) (mapr (DatIn.list m2 hx3)) rfl (ok_pairs _) (by show callerA.units + 3 + 64 < cLine; decide) ?_
    clear ha8
    have F₂₃ := S₂₃.fr
    have N₂₃ := S₂₃.news
    k_steps
    all_goals (try (exfalso; rename (_ != _) = true => hx; exact self_ne hx))
    unfold Stop
    have hkl : (rws.map (keepR qs)).length ≤ 11 := by rw [List.length_map]; exact hrl
    have hk3 : ∀ r ∈ rws.map (keepR qs), r.length ≤ 3 := fun r hr => by
      obtain ⟨r', hr', rfl⟩ := List.mem_map.mp hr
      exact Nat.le_trans (keep_len _ _) (hr3 r' hr')
    have hki : (rws.map (keepR qs)).map (keepR qs) = rws.map (keepR qs) := by rw [List.map_map]; exact List.map_congr_left fun r _ => keep_idem qs r
    have hkf := keep_flat qs rws
    generalize rws.map (keepR qs) = ks at *
    refine assign_compH (cl := []) rfl rfl (by decide) rfl (by decide) (by with_unfolding_all rfl) ?_ rfl rfl
    k_steps
    all_goals (try (exfalso; rename (_ != _) = true => hx; exact self_ne hx))
    unfold Stop
    rename Fr _ _ _ _ => F
    rename News _ _ _ _ => N
    have S₂₄ := S₂₃.next (co' := co6) F N (fun p hp => hp)
    clear F N S₂₃
    refine ⟨D5, ys5, [], fun i ys' nx => nx = [] ∧ DatAll DM ys' (((ks.take i).filter fun r => !r.isEmpty).map rowD), S₂₄.mOf, rfl, S₂₄.here, ⟨⟨_, (S₂₄.nd _ m5).1, rfl, k5, rfl⟩, ?_, List.forall_mem_nil _, ⟨rfl, .nil⟩, ?_⟩, fun _ _ h' _ hg _ => S₂₄.fr.ns.at' fun o e => hg _ _ e, ?_⟩
    · have := hd5.length
      rw [List.length_map] at this
      omega
    · rintro C i v ys9 m₁ nx9 h23 tk23 own hv ⟨rfl, hd9⟩ hown F₂ N₂
      obtain ⟨v', hv', hDv⟩ := hd5.get (k := i) (by rw [← hd5.length]; exact (List.getElem?_eq_some_iff.mp hv).1)
      rw [hv] at hv'
      cases hv'
      have hir : i < ks.length := by have := (List.getElem?_eq_some_iff.mp hv).1; rw [hd5.length, List.length_map] at this; exact this
      rw [List.getElem_map] at hDv
      have htk : ks.take (i + 1) = ks.take i ++ [ks[i]] := by rw [List.take_add_one, List.getElem?_eq_getElem hir]; rfl
      generalize ks[i] = r at hDv htk
      obtain ⟨ra, rva, rn, e, hrm, hrD⟩ := datList hDv
      cases e
      k_steps
      all_goals (try (exfalso; rename (_ != _) = true => hx; exact self_ne hx))
      unfold Stop
      rename Fr _ _ _ _ => F₃
      rename News _ _ _ _ => N₃
      rename_i l0 _ _
      by_cases hre : r = []
      · refine ne_F (g := (l0, W.listOf (([] : List Value)).toArray 0) :: DM) (List.forall_mem_cons.mpr ⟨(N₃ _ (.head _)).1, fun p hp => F₃.keep _ _ (S₂₄.nd p hp).1⟩) (hDv.mono fun p hp => .tail _ hp) (DatIn.list (ds := []) (.head _) .nil) (by rw [hre]; rfl) (ok_pairs _) (by show callerA.units + 3 + 64 < cLine; decide) ?_
        k_steps
        all_goals (try (exfalso; rename (_ != _) = true => hx; exact self_ne hx))
        rename Fr _ _ _ _ => F₄
        rename News _ _ _ _ => N₄
        exact elt_end [] F₄ N₄ (List.forall_mem_nil _) (fun p hp => .tail _ hp) (fun _ _ _ h => (nomatch h)) ⟨rfl, by rw [htk, hre]; simpa using hd9⟩
      · refine ne_T (g := (l0, W.listOf (([] : List Value)).toArray 0) :: DM) (List.forall_mem_cons.mpr ⟨(N₃ _ (.head _)).1, fun p hp => F₃.keep _ _ (S₂₄.nd p hp).1⟩) (hDv.mono fun p hp => .tail _ hp) (DatIn.list (ds := []) (.head _) .nil) (by rw [ne_eq, List.map_eq_nil_iff]; exact hre) (ok_pairs _) (List.forall_mem_nil _) (by show callerA.units + 3 + 64 < cLine; decide) ?_
        k_steps
        all_goals (try (exfalso; rename (_ != _) = true => hx; exact self_ne hx))
        rename Fr _ _ _ _ => F₄
        rename News _ _ _ _ => N₄
        refine elt_end [] F₄ N₄ (List.forall_mem_nil _) (fun p hp => .tail _ hp) (fun _ _ _ h => (nomatch h)) ⟨rfl, ?_⟩
        rw [htk, List.filter_append, List.map_append, show [r].filter (fun r => !r.isEmpty) = [r] by cases r with | nil => exact absurd rfl hre | cons => rfl]
        exact hd9.append (DatAll.one hDv)
    rintro D9 ys9 k9 nx9 h24 tk24 ⟨rfl, hd9⟩ hns9 hk9 hN9 hap9 hD90
    rw [show ys5.length = ks.length by rw [hd5.length, List.length_map], List.take_length] at hd9
    have S₂₅ := S₂₄.assigned0 (add := [(D9, W.listOf ys9.toArray k9)]) hns9 hk9 hN9
    unfold LawSt.mOf at S₂₅
    rw [List.cons_append, List.nil_append] at S₂₅
    clear S₂₄ hns9 hk9 hN9 hap9 hD90
    have m9 : (D9, W.listOf ys9.toArray k9) ∈ (D9, W.listOf ys9.toArray k9) :: DM := .head _
    have mM : ∀ p ∈ DM, p ∈ (D9, W.listOf ys9.toArray k9) :: DM := fun p hp => .tail _ hp
    generalize (D9, W.listOf ys9.toArray k9) :: DM = DN at S₂₅ m9 mM
    clear hy2 hy3 hd7
    replace hd9 := hd9.mono mM
    replace hd5 := hd5.mono mM
    replace hd1 := hd1.mono mM
    replace hqs := hqs.mono mM
    replace hx3 := hx3.mono mM
    replace m1 := mM _ m1
    replace m2 := mM _ m2
    replace m3 := mM _ m3
    replace m5 := mM _ m5
    have hDk : DatIn DN (.ref D5) (rowsD ks) := DatIn.list m5 hd5
    (try dsimp only)
    have F₂₅ := S₂₅.fr
    have N₂₅ := S₂₅.news
    k_steps
    all_goals (try (exfalso; rename (_ != _) = true => hx; exact self_ne hx))
    unfold Stop
    rename Fr _ _ _ _ => F
    rename News _ _ _ _ => N
    have S₂₆ := S₂₅.next (co' := co6) F N (fun p hp => hp)
    clear F N S₂₅
    refine join_L X T C1 (by show callerA.depth + 1 + 2 < recursionLimit; decide) (by show callerA.units + 3 + 40 < cLine; decide) S₂₆ hDk (by omega) hk3 fun h27 tk27 t27 ps3 e3 S₂₇ => ?_
    clear S₂₆
    have F₂₇ := S₂₇.fr
    have N₂₇ := S₂₇.news
    k_steps
    all_goals (try (exfalso; rename (_ != _) = true => hx; exact self_ne hx))
    unfold Stop
    rename Fr _ _ _ _ => F
    rename News _ _ _ _ => N
    have S₂₈ := S₂₇.next (co' := co6) F N (fun p hp => hp)
    clear F N S₂₇
    refine text_L X T (by show callerA.depth + 1 + 1 < recursionLimit; decide) (by show callerA.units + 3 + 40 < cLine; decide) S₂₈ hDk (by omega) hk3 fun h29 tk29 t29 S₂₉ => ?_
    clear S₂₈
    have F₂₉ := S₂₉.fr
    have N₂₉ := S₂₉.news
    k_steps
    all_goals (try (exfalso; rename (_ != _) = true => hx; exact self_ne hx))
    unfold Stop
    rename Fr _ _ _ _ => F
    rename News _ _ _ _ => N
    have S₃₀ := S₂₉.next (co' := co6) F N (fun p hp => hp)
    clear F N S₂₉
    refine text_L X T (by show callerA.depth + 1 + 1 < recursionLimit; decide) (by show callerA.units + 3 + 40 < cLine; decide) S₃₀ hDk (by omega) hk3 fun h31 tk31 t31 S₃₁ => ?_
    clear S₃₀
    have F₃₁ := S₃₁.fr
    have N₃₁ := S₃₁.news
    k_steps
    all_goals (try (exfalso; rename (_ != _) = true => hx; exact self_ne hx))
    unfold Stop
    rename Fr _ _ _ _ => F
    rename News _ _ _ _ => N
    rename _ ∧ _ ∧ _ ∧ AllLt _ _ => hlt31
    rename_i D10 h32
    have S₃₂ := (S₃₁.next (co' := co6) F N (fun p hp => List.mem_cons_of_mem _ hp)).add1 (a := D10) (o := W.listOf #[Value.str (textS ks) t31] 0) (N _ (.head _)) (LawSt.lts hlt31)
    clear F N S₃₁ hlt31
    refine split_L (tt := [ks]) X T C2 (by show callerA.depth + 1 + 2 < recursionLimit; decide) (by show callerA.units + 3 + 60 < cLine; decide) S₃₂ (DatIn.list (vs := [_]) (.head _) (.cons (.str _ _) .nil)) (by show 1 ≤ 16; decide) (fun rows hrs => by rw [List.mem_singleton.mp hrs]; exact ⟨by omega, hk3⟩) fun h33 tk33 b33 add33 ps4 e4 S₃₃ ha33 D33 => ?_
    clear S₃₂
    rw [split_one] at D33
    have F₃₃ := S₃₃.fr
    have N₃₃ := S₃₃.news
    k_steps
    all_goals (try (exfalso; rename (_ != _) = true => hx; exact self_ne hx))
    unfold Stop
    rename Fr _ _ _ _ => F
    rename News _ _ _ _ => N
    have S₃₄ := S₃₃.next (co' := co6) F N (fun p hp => hp)
    refine ne_same (S₃₄.withs ha33) (mapp D33) (mapr (DatIn.list (.tail _ m9) (hd9.mono fun p hp => .tail _ hp))) rfl (ok_rows _) (by show callerA.units + 3 + 64 < cLine; decide) ?_
    clear F N S₃₃ D33 ha33
    have F₃₄ := S₃₄.fr
    have N₃₄ := S₃₄.news
    k_steps
    all_goals (try (exfalso; rename (_ != _) = true => hx; exact self_ne hx))
    unfold Stop
    refine list_compH (cl := []) rfl rfl (by decide) rfl (by decide) ?_
    k_steps
    all_goals (try (exfalso; rename (_ != _) = true => hx; exact self_ne hx))
    unfold Stop
    rename Fr _ _ _ _ => F
    rename News _ _ _ _ => N
    have S₃₅ := S₃₄.next (co' := co6) F N (fun p hp => hp)
    clear F N S₃₄
    have X₃₅ : (Mine.hd.heap_39 w.params).In (hideAll h33 (List.map (·.1) ((82, tabObj ps3) :: e3))) := fun b o e => keep_hide S₃₅.fr.keep S₃₅.noB82 b o (X b o e)
    have T₃₅ : Top topProg _ _ _ _ (hideAll h33 (List.map (·.1) ((82, tabObj ps3) :: e3))) := T.keeps (keep_hide S₃₅.fr.keep S₃₅.noB82)
    refine ⟨D5, ys5, (82, tabObj ps3) :: e3, JJ h33 ps3 e3 ks, rfl, ⟨⟨_, S₃₅.hid82 _ (.tail _ m5), rfl, k5, rfl⟩, ?_, List.forall_mem_cons.mpr ⟨S₃₅.n82.1, fun p hp => (S₃₅.ne1 p hp).1⟩, ⟨ps3, e3, rfl, S₃₅.t1, fun p hp => (S₃₅.off p (List.mem_append.mpr (.inl hp))).2.1, .inl ⟨rfl, rfl⟩, .nil⟩, ?_⟩, ?_⟩
    · have := hd5.length
      rw [List.length_map] at this
      omega
    · rintro C i v ys12 m₁ nx12 h36 tk36 own hv ⟨psx, ext, rfl, htx, hx82, hex, hdx⟩ hown F₂ N₂
      obtain ⟨v', hv', hDv⟩ := hd5.get (k := i) (by rw [← hd5.length]; exact (List.getElem?_eq_some_iff.mp hv).1)
      rw [hv] at hv'
      cases hv'
      have hir : i < ks.length := by have := (List.getElem?_eq_some_iff.mp hv).1; rw [hd5.length, List.length_map] at this; exact this
      rw [List.getElem_map] at hDv
      have htk : ks.take (i + 1) = ks.take i ++ [ks[i]] := by rw [List.take_add_one, List.getElem?_eq_getElem hir]; rfl
      have hri := hk3 ks[i] (List.getElem_mem hir)
      generalize ks[i] = r at hDv htk hri
      obtain ⟨ra, rva, rn, e, hrm, hrD⟩ := datList hDv
      cases e
      replace N₂ := (show News _ _ _ ((82, tabObj psx) :: (ext ++ own)) from N₂)
      k_steps
      all_goals (try (exfalso; rename (_ != _) = true => hx; exact self_ne hx))
      unfold Stop
      rename Fr _ _ _ _ => F₃
      rename News _ _ _ _ => N₃
      rename _ ∧ AllLt _ _ => hl12
      rename_i l12 h36'
      refine join_elt X T C1 (by show callerA.depth + 1 + 2 < recursionLimit; decide) (by show callerA.units + 3 + 40 < cLine; decide) S₃₅ F₃ (N₃ _ (.head _)).1 (fun p hp => N₃ p (.tail _ hp)) hown ?_ (hDv.mono fun p hp => .tail _ hp) hri htx hx82 hex ?_
      · intro p hp
        rcases List.mem_cons.mp hp with rfl | hp
        · exact Nat.ne_of_lt hl12.1
        · exact Nat.ne_of_lt (allLt_lt hl12.2 p (List.mem_append.mpr (.inl hp)))
      · intro ps' ext' t ht' h82' hex'
        refine ⟨ps', ext', rfl, ht', h82', hex', ?_⟩
        rw [htk, List.map_append]
        exact hdx.append (DatAll.one (.str _ _))
    intro D11 ys11 k11 nx11 h37 tk37 hJ11 hk11 hN11 hap11 hD110
    obtain ⟨psx, ext, rfl, htx, hx82, hex, hdx⟩ := hJ11
    rw [show ys5.length = ks.length by rw [hd5.length, List.length_map], List.take_length] at hdx
    have S₃₆ := S₃₅.joinedC (h' := h37) (D := D11) (o := W.listOf ys11.toArray k11) hk11 (hN11 _ (.tail _ (.head _))).1 (fun p hp => (hN11 p (.tail _ (.tail _ hp))).1) hx82 htx hex (hN11 _ (.head _)).1 hD110 fun p hp => hap11 p (.tail _ hp)
    clear X₃₅ T₃₅ S₃₅ hk11 hN11 hap11 hD110 hex hx82 htx
    have F₃₆ := S₃₆.fr
    have N₃₆ := S₃₆.news
    k_steps
    all_goals (try (exfalso; rename (_ != _) = true => hx; exact self_ne hx))
    unfold Stop
    rename Fr _ _ _ _ => F
    rename News _ _ _ _ => N
    have S₃₇ := S₃₆.next (co' := co6) F N (fun p hp => hp)
    clear F N S₃₆
    refine split_L (tt := ks.map fun r => [r]) X T C2 (by show callerA.depth + 1 + 2 < recursionLimit; decide) (by show callerA.units + 3 + 60 < cLine; decide) S₃₇ (DatIn.list (.head _) (by rw [List.map_map]; exact hdx.mono (List.forall_mem_nil _))) (by rw [List.length_map]; omega) (fun rows hrs => by
      obtain ⟨r, hr, rfl⟩ := List.mem_map.mp hrs
      exact ⟨by show 1 ≤ 16; decide, fun r' hr' => by rw [List.mem_singleton.mp hr']; exact hk3 r hr⟩) fun h38 tk38 b38 add38 ps5 e5 S₃₈ ha38 D38 => ?_
    clear S₃₇
    rw [split_each] at D38
    have F₃₈ := S₃₈.fr
    have N₃₈ := S₃₈.news
    k_steps
    all_goals (try (exfalso; rename (_ != _) = true => hx; exact self_ne hx))
    unfold Stop
    rename Fr _ _ _ _ => F
    rename News _ _ _ _ => N
    have S₃₉ := S₃₈.next (co' := co6) F N (fun p hp => hp)
    refine ne_same (S₃₉.withs ha38) (mapp D38) (mapr (DatIn.list (.tail _ (.tail _ m9)) (hd9.mono fun p hp => .tail _ (.tail _ hp)))) rfl (ok_rows _) (by show callerA.units + 3 + 64 < cLine; decide) ?_
    clear F N S₃₈ D38 ha38
    have F₃₉ := S₃₉.fr
    have N₃₉ := S₃₉.news
    k_steps
    all_goals (try (exfalso; rename (_ != _) = true => hx; exact self_ne hx))
    unfold Stop
    obtain ⟨xss3, hw1, hw2, hw3⟩ := rows_lists hd5
    have hfl3 : xss3.flatten.length ≤ 1000 := by
      have h1 := hw3.length
      rw [List.length_map] at h1
      have h2 := flat_len hk3
      omega
    refine list_comp2 (cl := []) rfl rfl (by decide) rfl (by decide) (fun _ => rfl) (fun _ => rfl) (by decide) (by decide) ?_
    k_steps
    all_goals (try (exfalso; rename (_ != _) = true => hx; exact self_ne hx))
    unfold Stop
    rename Fr _ _ _ _ => F
    rename News _ _ _ _ => N
    have S₄₀ := S₃₉.next (co' := co6) F N (fun p hp => hp)
    clear F N S₃₉
    refine ⟨D5, ys5, xss3, rfl, ⟨⟨_, (S₄₀.nd _ (.tail _ (.tail _ m5))).1, rfl, k5, rfl⟩, fun i v hv => ?_, hw1.symm, by omega⟩, ?_⟩
    · obtain ⟨a, xs, n, e1, e2, e3⟩ := hw2 i v hv
      exact ⟨a, xs, e1, e2, _, (S₄₀.nd _ (.tail _ (.tail _ e3))).1, rfl, n, rfl⟩
    intro D12 k12 h39 tk39 hg12 hD12 hD120
    have S₄₁ := S₄₀.comped hg12 hD12 hD120
    clear S₄₀ hg12 hD12 hD120
    have F₄₁ := S₄₁.fr
    have N₄₁ := S₄₁.news
    k_steps
    all_goals (try (exfalso; rename (_ != _) = true => hx; exact self_ne hx))
    unfold Stop
    rename Fr _ _ _ _ => F
    rename News _ _ _ _ => N
    have S₄₂ := S₄₁.next (co' := co6) F N (fun p hp => hp)
    clear F N S₄₁
    refine filter_L X T (by show callerA.depth + 1 + 4 < recursionLimit; decide) (by show callerA.units + 3 + 200 < cLine; decide) rfl rfl S₄₂ (.tail _ (.tail _ (.tail _ m2))) (hx3.mono fun p hp => .tail _ (.tail _ (.tail _ hp))) (.tail _ (.tail _ (.tail _ m3))) (hqs.mono fun p hp => .tail _ (.tail _ (.tail _ hp))) (ok_pairs _) (ok_pairs _) (by omega) fun h43 tk43 a43 n43 vs43 S₄₃ D43 => ?_
    clear S₄₂
    rw [keep_dat, ← hkf] at D43
    have F₄₃ := S₄₃.fr
    have N₄₃ := S₄₃.news
    k_steps
    all_goals (try (exfalso; rename (_ != _) = true => hx; exact self_ne hx))
    unfold Stop
    rename Fr _ _ _ _ => F
    rename News _ _ _ _ => N
    have S₄₄ := S₄₃.next (co' := co6) F N (fun p hp => hp)
    clear F N S₄₃
    refine ne_same (fun p hp => S₄₄.nd p hp) (DatIn.list (.tail _ (.head _)) (hw3.mono fun p hp => .tail _ (.tail _ (.tail _ (.tail _ hp))))) (DatIn.list (.head _) (D43.mono fun p hp => .tail _ hp)) rfl (ok_pairs _) (by show callerA.units + 3 + 64 < cLine; decide) ?_
    have mP : ∀ p ∈ DN, p ∈ (a43, W.listOf vs43.toArray n43) :: (D12, W.listOf xss3.flatten.toArray k12) :: (D11, W.listOf ys11.toArray k11) :: (D10, W.listOf #[Value.str (textS ks) t31] 0) :: DN := fun p hp => .tail _ (.tail _ (.tail _ (.tail _ hp)))
    clear D43 hw2 hw3
    generalize (a43, W.listOf vs43.toArray n43) :: (D12, W.listOf xss3.flatten.toArray k12) :: (D11, W.listOf ys11.toArray k11) :: (D10, W.listOf #[Value.str (textS ks) t31] 0) :: DN = DP at S₄₄ mP
    replace hd5 := hd5.mono mP
    replace hqs := hqs.mono mP
    replace hx3 := hx3.mono mP
    replace m2 := mP _ m2
    replace m3 := mP _ m3
    replace m5 := mP _ m5
    have F₄₄ := S₄₄.fr
    have N₄₄ := S₄₄.news
    k_steps
    all_goals (try (exfalso; rename (_ != _) = true => hx; exact self_ne hx))
    unfold Stop
    refine list_compH (cl := [(Str.ofString "leave", LL + 1)]) rfl rfl (by decide) rfl (by decide) ?_
    k_steps
    all_goals (try (exfalso; rename (_ != _) = true => hx; exact self_ne hx))
    unfold Stop
    rename Fr _ _ _ _ => F
    rename News _ _ _ _ => N
    have S₄₅ := S₄₄.next (co' := co6) F N (fun p hp => hp)
    clear F N S₄₄
    obtain ⟨oL, hoL⟩ := S₄₅.here
    have mD := S₄₅.nd _ m5
    have hX3 : ∀ b ∈ [LL], B.get? b = none := fun b hb => by rw [List.mem_singleton.mp hb]; exact Heap.get?_none_of_le hBL
    have X₄₅ : (Mine.hd.heap_39 w.params).In (hideAll h43 (List.map (·.1) [((LL : Addr), oL)])) := fun b o e => keep_hide S₄₅.fr.keep hX3 b o (X b o e)
    have T₄₅ : Top topProg _ _ _ _ (hideAll h43 (List.map (·.1) [((LL : Addr), oL)])) := T.keeps (keep_hide S₄₅.fr.keep hX3)
    have hcg : (hideAll h43 (List.map (·.1) [((LL : Addr), oL)])).get? (LL + 1) = some co6 := hideAll_get _ S₄₅.nc.1 fun hm => S₄₅.nc.2.1 (List.mem_singleton.mp hm)
    refine ⟨D5, ys5, [(LL, oL)], FJ LL oL DP ks qs, rfl, ⟨⟨_, hideAll_get _ mD.1 fun hm => mD.2.1 (List.mem_singleton.mp hm), rfl, k5, rfl⟩, ?_, fun p hp => by rw [List.mem_singleton.mp hp]; exact hoL, ⟨oL.slots, [], rfl, List.forall_mem_nil _, .nil⟩, ?_⟩, ?_⟩
    · have := hd5.length
      rw [List.length_map] at this
      omega
    · rintro C i v ys5' m₁ nx5 h17 tk17 own hv ⟨sl5, adds, rfl, hadds, hdx5⟩ hown F₂ N₂
      obtain ⟨v', hv', hDv⟩ := hd5.get (k := i) (by rw [← hd5.length]; exact (List.getElem?_eq_some_iff.mp hv).1)
      rw [hv] at hv'
      cases hv'
      have hir : i < ks.length := by have := (List.getElem?_eq_some_iff.mp hv).1; rw [hd5.length, List.length_map] at this; exact this
      rw [List.getElem_map] at hDv
      have htk : ks.take (i + 1) = ks.take i ++ [ks[i]] := by rw [List.take_add_one, List.getElem?_eq_getElem hir]; rfl
      have hri := hk3 ks[i] (List.getElem_mem hir)
      generalize ks[i] = r at hDv htk hri
      obtain ⟨ra, rva, rn, e, hrm, hrD⟩ := datList hDv
      cases e
      k_steps
      all_goals (try (exfalso; rename (_ != _) = true => hx; exact self_ne hx))
      unfold Stop
      rename Fr _ _ _ _ => F₃
      rename News _ _ _ _ => N₃
      refine filter_elt X T (by show callerA.depth + 1 + 4 < recursionLimit; decide) (by show callerA.units + 3 + 200 < cLine; decide) rfl rfl S₄₅ hoL F₃ N₃ hown hadds hrm hrD m3 hqs (ok_pairs _) (ok_pairs _) (by have := hrD.length; rw [List.length_map] at this; omega) ?_
      intro sl' a' n' vs' ha'L Dv
      rw [keep_dat] at Dv
      refine ⟨sl', (a', W.listOf vs'.toArray n') :: adds, rfl, List.forall_mem_cons.mpr ⟨ha'L, hadds⟩, ?_⟩
      rw [htk, List.map_append, List.map_append]
      exact (DatAll.mono (fun p hp => .tail _ hp) hdx5).append (DatAll.one (DatIn.list (.head _) (Dv.mono fun p hp => .tail _ (List.mem_append.mpr (.inr hp)))))
    intro D13 ys13 k13 nx13 h46 tk46 hJ13 hk13 hN13 hap13 hD130
    obtain ⟨sl13, adds, rfl, hadds, hd13⟩ := hJ13
    rw [show ys5.length = ks.length by rw [hd5.length, List.length_map], List.take_length, hki] at hd13
    have S₄₆ := S₄₅.assignedF (add := (D13, W.listOf ys13.toArray k13) :: adds) (S₄₅.nsF hoL hk13 (hN13 _ (.tail _ (.head _))).1) (fun b o _ e => hk13 b o e) (List.forall_mem_cons.mpr ⟨by
      have z := hN13 _ (.head _)
      have ne : D13 ≠ LL := fun e => by have := hD130; rw [e] at this; rw [show _ = some oL from hoL] at this; cases this
      exact ⟨ne, z.2, z.1⟩, fun p hp => by
      have z := hN13 p (.tail _ (.tail _ hp))
      exact ⟨hadds p hp, z.2, z.1⟩⟩)
    clear hcg X₄₅ T₄₅ hoL mD hk13 hN13 hap13 hD130 S₄₅ hX3
    have F₄₆ := S₄₆.fr
    have N₄₆ := S₄₆.news
    k_steps
    all_goals (try (exfalso; rename (_ != _) = true => hx; exact self_ne hx))
    unfold Stop
    rename Fr _ _ _ _ => F
    rename News _ _ _ _ => N
    have S₄₇ := S₄₆.next (co' := co6) F N (fun p hp => hp)
    clear F N S₄₆
    refine ne_same (fun p hp => S₄₇.nd p hp) (DatIn.list (.head _) (hd13.mono fun p hp => .tail _ hp)) (DatIn.list (List.mem_append.mpr (.inr m5)) (hd5.mono fun p hp => List.mem_append.mpr (.inr hp))) rfl (ok_rows _) (by show callerA.units + 3 + 64 < cLine; decide) ?_
    have F₄₇ := S₄₇.fr
    have N₄₇ := S₄₇.news
    k_steps
    all_goals (try (exfalso; rename (_ != _) = true => hx; exact self_ne hx))
    unfold Stop
    rename Fr _ _ _ _ => F
    rename News _ _ _ _ => N
    have S₄₈ := S₄₇.next (co' := co6) F N (fun p hp => hp)
    clear F N S₄₇
    refine filter_L X T (by show callerA.depth + 1 + 4 < recursionLimit; decide) (by show callerA.units + 3 + 200 < cLine; decide) rfl rfl S₄₈ (List.mem_append.mpr (.inr m2)) (hx3.mono fun p hp => List.mem_append.mpr (.inr hp)) (List.mem_append.mpr (.inr m2)) (hx3.mono fun p hp => List.mem_append.mpr (.inr hp)) (ok_pairs _) (ok_pairs _) (by omega) fun h49 tk49 a49 n49 vs49 S₄₉ D49 => ?_
    clear S₄₈
    rw [keep_dat, keep_self] at D49
    obtain rfl : vs49 = [] := List.eq_nil_of_length_eq_zero D49.length
    have F₄₉ := S₄₉.fr
    have N₄₉ := S₄₉.news
    k_steps
    all_goals (try (exfalso; rename (_ != _) = true => hx; exact self_ne hx))
    unfold Stop
    rename Fr _ _ _ _ => F
    rename News _ _ _ _ => N
    refine eq_same (ds := []) N (DatIn.list (vs := []) (n := n49) (mem_dl4 (.head _)) .nil) (DatIn.list (vs := []) (.head _) .nil) rfl (List.forall_mem_nil _) (by show callerA.units + 3 + 64 < cLine; decide) ?_
    have S₅₀ := S₄₉.next (co' := co6) F N (fun p hp => .tail _ hp)
    clear F N S₄₉
    have F₅₀ := S₅₀.fr
    have N₅₀ := S₅₀.news
    k_steps
    all_goals (try (exfalso; rename (_ != _) = true => hx; exact self_ne hx))
    unfold Stop
    rename Fr _ _ _ _ => F
    rename News _ _ _ _ => N
    rename _ ∧ _ ∧ _ ∧ AllLt _ _ => hlt50
    rename_i l50 h50
    have S₅₁ := (S₅₀.next (co' := co6) F N (fun p hp => List.mem_cons_of_mem _ hp)).add1 (a := l50) (o := W.listOf (#[] : Array Value) 0) (N _ (.head _)) (LawSt.lts hlt50)
    clear F N S₅₀ hlt50
    refine join_L (rows := []) X T C1 (by show callerA.depth + 1 + 2 < recursionLimit; decide) (by show callerA.units + 3 + 40 < cLine; decide) S₅₁ (DatIn.list (vs := []) (.head _) .nil) (Nat.zero_le _) (List.forall_mem_nil _) fun h52 tk52 t52 ps6 e6 S₅₂ => ?_
    clear S₅₁
    rw [text_nil]
    have F₅₂ := S₅₂.fr
    have N₅₂ := S₅₂.news
    k_steps
    all_goals (try (exfalso; rename (_ != _) = true => hx; exact self_ne hx))
    unfold Stop
    rename Fr _ _ _ _ => F
    rename News _ _ _ _ => N
    rename _ ∧ _ ∧ _ ∧ AllLt _ _ => hlt52
    rename_i l52 h53
    have S₅₃ := (S₅₂.next (co' := co6) F N (fun p hp => List.mem_cons_of_mem _ hp)).add1 (a := l52) (N _ (.head _)) (LawSt.lts hlt52)
    clear F N S₅₂ hlt52
    refine split_L (tt := [[]]) X T C2 (by show callerA.depth + 1 + 2 < recursionLimit; decide) (by show callerA.units + 3 + 60 < cLine; decide) S₅₃ (DatIn.list (vs := [_]) (.head _) (.cons (.str _ _) .nil)) (by show 1 ≤ 16; decide) (fun rows hrs => by rw [List.mem_singleton.mp hrs]; exact ⟨Nat.zero_le _, List.forall_mem_nil _⟩) fun h54 tk54 b54 add54 ps7 e7 S₅₄ ha54 D54 => ?_
    clear S₅₃
    have F₅₄ := S₅₄.fr
    have N₅₄ := news_app S₅₄.news ha54
    simp only [List.cons_append] at N₅₄
    have D55 : DatIn add54 (.ref b54) (.list []) := D54
    k_steps
    all_goals (try (exfalso; rename (_ != _) = true => hx; exact self_ne hx))
    unfold Stop
    rename Fr _ _ _ _ => F
    rename News _ _ _ _ => N
    refine eq_same (ds := []) N (D55.mono fun p hp => .tail _ (.tail _ (.tail _ (.tail _ (List.mem_append.mpr (.inr hp)))))) (DatIn.list (vs := []) (.head _) .nil) rfl (List.forall_mem_nil _) (by show callerA.units + 3 + 64 < cLine; decide) ?_
    k_steps
    subst eQ
    (try dsimp only)
    k_steps)
end Mine

theorem PySem.Challenge.cw_ik0003_01_holds : PySem.Challenge.rw_ik0003_01.Holds := by
  exact Mine.law_holds
